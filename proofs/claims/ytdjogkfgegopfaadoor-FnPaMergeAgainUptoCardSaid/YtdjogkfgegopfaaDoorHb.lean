/- The walk of json-patch's door node: a tree of plain data made into a tree of nodes. Condition: the tree is tidy, its texts and lists are of at most 2^40. -/
import Derived.Test.YtdjogkfgegopfaaDoorHa
import Derived.Deep.RegionLaw
import Derived.Deep.AppendLies
import Derived.Deep.RegionHeld3
namespace Go.Proofs.YtdjogkfgegopfaaDoor
open Go.RowKit Go.Maps Go.Proofs.YtdjogkfgegopfaaDoor.MFnPaMergeAgain Go.Proofs.YtdjogkfgegopfaaDoor.Pure Go.Proofs.YtdjogkfgegopfaaDoorW.PrintWords Go.Proofs.YtdjogkfgegopfaaDoorW.PrintLast
set_option linter.unusedVariables false
set_option linter.unusedSimpArgs false

mutual
/-- The tree of a JSON text: what a kind does not use is empty, no name twice, all lists and texts of at most B. -/
def tidy (B : Nat) : S25 → Prop
  | ⟨k, t, ks, vs⟩ => ((k = 0 ∧ t = ByteArray.empty ∧ ks = [] ∧ vs = []) ∨ ((leafB k t).isSome = true ∧ ks = [] ∧ vs = []) ∨ (k = 5 ∧ t = ByteArray.empty ∧ ks = []) ∨ (k = 6 ∧ t = ByteArray.empty ∧ ks.Nodup ∧ ks.length = vs.length)) ∧ t.size ≤ B ∧ ks.length ≤ B ∧ vs.length ≤ B ∧ (∀ x, x ∈ ks → x.size ≤ B) ∧ tidyL B vs
def tidyL (B : Nat) : List S25 → Prop
  | [] => True
  | v :: r => tidy B v ∧ tidyL B r
end
theorem tidyL_get {B : Nat} : ∀ {l : List S25} {v : S25}, tidyL B l → v ∈ l → tidy B v
  | u :: r, v, h, hv => by
    simp only [tidyL] at h
    rcases List.mem_cons.1 hv with rfl | hv
    · exact h.1
    · exact tidyL_get h.2 hv

def NodePost (w : World) (T : S25) : Ending → World → Prop := fun e w' => ∃ v, e = .returned v ∧ LN false w' v T (New w) ∧ Below w.heap.size w w'

theorem leaf_close {w W w1 : World} {k : Int} {t : ByteArray} {bs : List UInt8} {r : Nat} (hrr : r = W.heap.size + 1) (hl : leafB k t = some bs) (h0 : Below w.heap.size w W) (hr : RawAt w1 (fun i => W.heap.size ≤ i) (W.heap.size + 1) bs) (hb : Below W.heap.size W w1) :
    NodePost w ⟨k, t, [], []⟩ (.returned (pv w1.heap.size)) (w1.alloc (.cells #[pv r, .pointer none, .pointer none, .int .i64 0] 80)) := by
  subst hrr
  have hs := h0.size
  have hs1 := hb.size
  refine ⟨_, rfl, .leaf _ (W.heap.size + 1) _ k t bs hl ⟨by unfold New; omega, heap_alloc_new _ _⟩ ?_, (h0.trans (hb.mono hs)).alloc (by omega) _⟩
  exact (hr.move (fun i hi _ => Below.heap_alloc _ _ _ hi) (by simp)).mono (fun i hi => by unfold New; omega)

theorem leafB1 {t : ByteArray} {bs : List UInt8} (h : leafB 1 t = some bs) : bs = (⟨#[102, 97, 108, 115, 101]⟩ : ByteArray).data.toList := by
  simp [leafB] at h
  rw [← h.2]
  rfl
theorem leafB2 {t : ByteArray} {bs : List UInt8} (h : leafB 2 t = some bs) : bs = (⟨#[116, 114, 117, 101]⟩ : ByteArray).data.toList := by
  simp [leafB] at h
  rw [← h.2]
  rfl
theorem leafB3 {t : ByteArray} {bs : List UInt8} (h : leafB 3 t = some bs) : bs = t.data.toList := by
  simp [leafB] at h
  rw [← h.2]
theorem leafB4 {t : ByteArray} {bs : List UInt8} (h : leafB 4 t = some bs) : bs = (⟨#[34]⟩ ++ t ++ ⟨#[34]⟩ : ByteArray).data.toList := by
  simp [leafB] at h
  rw [← h]
  simp

theorem quote_size {t : ByteArray} (h : t.size ≤ 1099511627776) : (⟨#[34]⟩ ++ t ++ ⟨#[34]⟩ : ByteArray).size ≤ maxLen := by
  rw [ByteArray.size_append, ByteArray.size_append]
  have : (⟨#[34]⟩ : ByteArray).size = 1 := rfl
  rw [this]
  unfold maxLen
  omega
set_option maxRecDepth 100000 in
set_option maxHeartbeats 1000000 in
theorem node_leaf (w : World) (k : Int) (t : ByteArray) (bs : List UInt8) (A2 A3 : Option Addr) (c2 c3 : Nat) (opts : Value) (hl : leafB k t = some bs) (ht : t.size ≤ 1099511627776) :
    Calls Tryd.prog 54 #[.agg #[.int .i64 k, .string t, .slice A2 0 c2, .slice A3 0 c3], opts] w (NodePost w ⟨k, t, [], []⟩) := by
  have HB : Hid (Below w.heap.size w (w.alloc (.cells #[.int .i64 k, .string t, .slice A2 0 c2, .slice A3 0 c3] 42))) := Lib.hid ((Below.refl _ _).alloc (Nat.le_refl _) _)
  have HL := Lib.hid hl
  rcases leafB_kind hl with rfl | rfl | rfl | rfl
  · obtain rfl := leafB1 hl
    clear hl
    go_enter Tryd.func54, Tryd.ntmps54
    go_wp2_with (first | (go_at_call 66; refine (zzRaw_any _ _ (by decide)).mono ?_; rintro e w1 ⟨rfl, hz, hr, hb⟩; have HR := Lib.hid (And.intro hr hb); clear hz hr hb) | (go_at_call 65; refine (newNode_any _ _).mono ?_; rintro e w2 ⟨rfl, rfl⟩) | fail)
    go_ret
    exact leaf_close (by simp) HL.out HB.out HR.out.1 HR.out.2
  · obtain rfl := leafB2 hl
    clear hl
    go_enter Tryd.func54, Tryd.ntmps54
    go_wp2_with (first | (go_at_call 66; refine (zzRaw_any _ _ (by decide)).mono ?_; rintro e w1 ⟨rfl, hz, hr, hb⟩; have HR := Lib.hid (And.intro hr hb); clear hz hr hb) | (go_at_call 65; refine (newNode_any _ _).mono ?_; rintro e w2 ⟨rfl, rfl⟩) | fail)
    go_ret
    exact leaf_close (by simp) HL.out HB.out HR.out.1 HR.out.2
  · obtain rfl := leafB3 hl
    clear hl
    go_enter Tryd.func54, Tryd.ntmps54
    go_wp2_with (first | (go_at_call 66; refine (zzRaw_any _ _ (by unfold maxLen; omega)).mono ?_; rintro e w1 ⟨rfl, hz, hr, hb⟩; have HR := Lib.hid (And.intro hr hb); clear hz hr hb) | (go_at_call 65; refine (newNode_any _ _).mono ?_; rintro e w2 ⟨rfl, rfl⟩) | fail)
    go_ret
    exact leaf_close (by simp) HL.out HB.out HR.out.1 HR.out.2
  · obtain rfl := leafB4 hl
    clear hl
    go_enter Tryd.func54, Tryd.ntmps54
    go_wp2_with (first | (go_at_call 66; refine (zzRaw_any _ _ (quote_size ht)).mono ?_; rintro e w1 ⟨rfl, hz, hr, hb⟩; have HR := Lib.hid (And.intro hr hb); clear hz hr hb) | (go_at_call 65; refine (newNode_any _ _).mono ?_; rintro e w2 ⟨rfl, rfl⟩) | fail)
    go_ret
    exact leaf_close (by simp) HL.out HB.out HR.out.1 HR.out.2

set_option maxRecDepth 100000 in
set_option maxHeartbeats 1000000 in
theorem node_null (w : World) (A2 A3 : Option Addr) (c2 c3 : Nat) (opts : Value) :
    Calls Tryd.prog 54 #[.agg #[.int .i64 0, .string ByteArray.empty, .slice A2 0 c2, .slice A3 0 c3], opts] w (NodePost w ⟨0, ByteArray.empty, [], []⟩) := by
  go_enter Tryd.func54, Tryd.ntmps54
  go_wp2
  go_ret
  exact ⟨_, rfl, .nul _, (Below.refl _ _).alloc (Nat.le_refl _) _⟩

theorem infoP : (Tryd.prog.info? 62).map (fun i => (i.zero, i.size, i.bytes)) = some (some (.pointer none), 1, 8) := by kernel_rfl

/-- What holds in the loop over an array's kids: n of them are nodes. -/
structure ArrInv (w : World) (b r a n : Nat) (vs : List Value) (ts : List S25) (col : Nat → Option Nat) (nv : Value) (wr : World) : Prop where
  below : Below w.heap.size w wr
  node : NodeAt wr (fun i => New w i ∧ col i = none) b r (.pointer none) (pv a) 2
  raw : RawAt wr (fun i => New w i ∧ col i = none) r [91, 93]
  ary : (∃ self, wr.heap[a]? = some (.cells #[self, nv] 100 (0, 0))) ∧ New w a ∧ col a = none
  own : wr.ownsRow 0 62 1 nv vs.length vs
  ownS : ∀ k, nv.ownBlock = some k → New w k ∧ col k = none
  len : vs.length = n
  kids : ∀ i v t, vs[i]? = some v → ts[i]? = some t → LN false wr v t (fun j => New w j ∧ col j = some i)
theorem arr_start {w W w1 : World} {b r a : Nat} {ts : List S25} (h0 : Below w.heap.size w W) (hn : NodeAt w1 (New W) b r (.pointer none) (pv a) 2) (hr : RawAt w1 (New W) r [91, 93]) (ha : AryAt w1 (New W) a []) (hb : Below W.heap.size W w1) : ∃ nv col, ArrInv w b r a 0 [] ts col nv w1 := by
  have hs := h0.size
  have hO : ∀ i, New W i → New w i ∧ (none : Option Nat) = none := fun i hi => ⟨by unfold New at *; omega, rfl⟩
  obtain ⟨self, nv, h1, h2, h3, h4⟩ := ha
  exact ⟨nv, fun _ => none, h0.trans (hb.mono hs), ⟨hO _ hn.1, hn.2⟩, hr.mono hO, ⟨⟨self, h1⟩, hO _ h3⟩, h2, fun k hk => hO _ (h4 k hk), rfl, fun i v t hv => by simp at hv⟩
theorem arr_end {w wr : World} {b r a n : Nat} {vs : List Value} {ts : List S25} {col : Nat → Option Nat} {nv : Value} (h : ArrInv w b r a n vs ts col nv wr) (hn : n = ts.length) : NodePost w ⟨5, ByteArray.empty, [], ts⟩ (.returned (pv b)) wr := by
  obtain ⟨self, ha⟩ := h.ary.1
  exact ⟨_, rfl, .arr b r a (New w) col vs ts h.node h.raw ⟨self, nv, ha, h.own, h.ary.2, h.ownS⟩ (h.len.trans hn) h.kids, h.below⟩
theorem arr_step {w wr w1 w2 w3 w4 : World} {b r a n g cap : Nat} {vs : List Value} {ts : List S25} {col : Nat → Option Nat} {nv v : Value} (h : ArrInv w b r a n vs ts col nv wr) (hn : n < ts.length)
    (hb1 : Below wr.heap.size wr w1) (hv : LN false w2 v ts[n] (New w1)) (hb2 : Below w1.heap.size w1 w2) (hb3 : Below w2.heap.size w2 w3) (ho : w4.ownsRow 0 62 1 (.slice (some ⟨g, 0, none⟩) (n + 1) cap) (n + 1) (vs ++ [v])) (hg : w3.grownBy w4 nv.ownBlock) (hat : nv.ownBlock = some g ∨ w2.heap.size ≤ g) :
    ∃ col, ArrInv w b r a (n + 1) (vs ++ [v]) ts col (.slice (some ⟨g, 0, none⟩) (n + 1) cap) (w4.setCell ⟨a, 1, none⟩ (.slice (some ⟨g, 0, none⟩) (n + 1) cap)) := by
  have hbelow := h.below
  have s0 := hbelow.size
  have s1 := hb1.size
  have s2 := hb2.size
  have s3 := hb3.size
  have s4 := hg.size
  obtain ⟨⟨self, ha⟩, ha1, ha2⟩ := h.ary
  have hal : a < wr.heap.size := (Array.getElem?_eq_some_iff.1 ha).1
  -- what is written: the row, and the array's container
  have hO : Only (fun i => nv.ownBlock = some i ∨ i = a) wr (w4.setCell ⟨a, 1, none⟩ (.slice (some ⟨g, 0, none⟩) (n + 1) cap)) :=
    ((((Only.of_below hb1 : Only (fun i => nv.ownBlock = some i ∨ i = a) wr w1).trans (Only.of_below hb2 : Only (fun i => nv.ownBlock = some i ∨ i = a) w1 w2) (fun _ _ q => q) (fun _ _ q => q)).trans (Only.of_below hb3 : Only (fun i => nv.ownBlock = some i ∨ i = a) w2 w3) (fun _ _ q => q) (fun _ _ q => q)).trans (Only.of_grown hg (fun i hi => .inl hi)) (fun _ _ q => q) (fun _ _ q => q)).trans (Only.set _ a 1 _ (.inr rfl)) (fun _ _ q => q) (fun _ _ q => q)
  have hO2 : Only (fun i => nv.ownBlock = some i ∨ i = a) w2 (w4.setCell ⟨a, 1, none⟩ (.slice (some ⟨g, 0, none⟩) (n + 1) cap)) :=
    ((Only.of_below hb3 : Only (fun i => nv.ownBlock = some i ∨ i = a) w2 w3).trans (Only.of_grown hg (fun i hi => .inl hi)) (fun _ _ q => q) (fun _ _ q => q)).trans (Only.set _ a 1 _ (.inr rfl)) (fun _ _ q => q) (fun _ _ q => q)
  have hown := h.own
  have hOwn : ∀ i, nv.ownBlock = some i ∨ i = a → i < wr.heap.size ∧ New w i ∧ col i = none := by
    rintro i (q | rfl)
    · exact ⟨(hown.lt i q).2, h.ownS i q⟩
    · exact ⟨hal, ha1, ha2⟩
  have hra : ∀ i, nv.ownBlock = some i → i ≠ a := by
    rintro i q rfl
    exact own_ne hown ha (by decide) q.symm
  refine ⟨fun j => if w1.heap.size ≤ j then (if j < w2.heap.size then some n else none) else col j, ?_⟩
  have hc : ∀ j, j < wr.heap.size → (if w1.heap.size ≤ j then (if j < w2.heap.size then some n else none) else col j) = col j := fun j hj => if_neg (by omega)
  have hcn : ∀ j, j < wr.heap.size → (New w j ∧ col j = none) → (New w j ∧ (if w1.heap.size ≤ j then (if j < w2.heap.size then some n else none) else col j) = none) := fun j hj q => ⟨q.1, by rw [hc j hj]; exact q.2⟩
  have a4 : w4.heap[a]? = some (.cells #[self, nv] 100 (0, 0)) :=
    (hg.block a (by omega) (fun q => hra a q.symm rfl)).trans ((hb3.block a (by omega)).trans ((hb2.block a (by omega)).trans ((hb1.block a hal).trans ha)))
  have ob := (hO.below (B := w.heap.size) (fun i _ hi => (hOwn i hi).2.1) s0)
  refine ⟨hbelow.trans ob, ?_, ?_, ⟨⟨self, ?_⟩, hcn a hal ⟨ha1, ha2⟩⟩, ?_, fun k hk => ?_, by simp [h.len], fun i u t hu ht => ?_⟩
  · exact h.node.other hO (fun i hi q => .inl (by
      rcases q with q | rfl
      · obtain ⟨cs, hc⟩ := own_typed hown i q
        exact ⟨cs, _, _, hc, by decide⟩
      · exact ⟨_, _, _, ha, by decide⟩)) hcn
  · exact h.raw.other hO (fun i hi q => .inl (by
      rcases q with q | rfl
      · obtain ⟨cs, hc⟩ := own_typed hown i q
        exact ⟨cs, _, _, hc, by decide, by decide⟩
      · exact ⟨_, _, _, ha, by decide, by decide⟩)) hcn
  · have := heap_setCell_same _ a 1 _ _ (.slice (some ⟨g, 0, none⟩) (n + 1) cap) a4
    simpa using this
  · have := own_setCell ho (p := ⟨a, 1, none⟩) (fun q => own_ne ho a4 (by decide) q) (.slice (some ⟨g, 0, none⟩) (n + 1) cap)
    simpa [h.len] using this
  · simp only [Value.ownBlock, Option.some.injEq] at hk
    subst hk
    rcases hat with q | q
    · exact hcn g (hown.lt g q).2 (h.ownS g q)
    · refine ⟨by unfold New; omega, ?_⟩
      rw [if_pos (by omega), if_neg (by omega)]
  · rcases Nat.lt_or_ge i vs.length with hi | hi
    · rw [List.getElem?_append_left hi] at hu
      refine (h.kids i u t hu ht).step hO (fun j hj hs q => ?_) (fun j hj q => ⟨q.1, by rw [hc j hj]; exact q.2⟩)
      have := (hOwn j q).2.2
      rw [hs.2] at this
      cases this
    · have hin : i = n := by
        have hlen := h.len
        rcases Nat.lt_or_ge i (n + 1) with q | q
        · omega
        · rw [List.getElem?_eq_none (by simp; omega)] at hu; cases hu
      subst hin
      have hlen := h.len
      rw [List.getElem?_append_right (by omega), hlen, Nat.sub_self] at hu
      simp only [List.getElem?_cons_zero, Option.some.injEq] at hu
      subst hu
      rw [List.getElem?_eq_getElem hn] at ht
      simp only [Option.some.injEq] at ht
      subst ht
      refine hv.step hO2 (fun j hj hs q => ?_) (fun j hj q => ⟨by unfold New at *; omega, by rw [if_pos (show w1.heap.size ≤ j from q), if_pos hj]⟩)
      have := (hOwn j q).1
      unfold New at hs
      omega

theorem arr_round {w W : World} {b r a n : Nat} {vs : List Value} {ts : List S25} {nv : Value} (m : Nat) (h : ∃ col, ArrInv w b r a (n + 1) vs ts col nv W) (hn : n < m) :
    (∃ (n_1 : Nat) (vs : List Value) (col : Nat → Option Nat) (nv : Value), n_1 ≤ m ∧ Value.int IntKind.i64 ((n : Int) + 1) = Value.int IntKind.i64 (n_1 : Int) ∧ Hid (ArrInv w b r a n_1 vs ts col nv W)) ∧ m - (intOf (Value.int IntKind.i64 ((n : Int) + 1))).toNat < m - (intOf (Value.int IntKind.i64 (n : Int))).toNat := by
  obtain ⟨col, h⟩ := h
  exact ⟨⟨n + 1, vs, col, nv, by omega, by go_num, Lib.hid h⟩, by simp [intOf]; omega⟩

set_option maxRecDepth 1000000 in
set_option maxHeartbeats 4000000 in
theorem node_arr (w : World) (ts : List S25) (A2 A3 : Option Addr) (c2 c3 : Nat) (opts : Value) (hT : TR w (All w) ⟨5, ByteArray.empty, [], ts⟩ [.int .i64 5, .string ByteArray.empty, .slice A2 0 c2, .slice A3 ts.length c3]) (hl : ts.length ≤ 1099511627776)
    (IH : ∀ v W cs, v ∈ ts → TR W (All W) v cs → Calls Tryd.prog 54 #[.agg cs.toArray, opts] W (NodePost W v)) :
    Calls Tryd.prog 54 #[.agg #[.int .i64 5, .string ByteArray.empty, .slice A2 0 c2, .slice A3 ts.length c3], opts] w (NodePost w ⟨5, ByteArray.empty, [], ts⟩) := by
  have HT := Lib.hid hT
  have HI := Lib.hid IH
  have HB0 : Hid (Below w.heap.size w (w.alloc (.cells #[.int .i64 5, .string ByteArray.empty, .slice A2 0 c2, .slice A3 ts.length c3] 42))) := Lib.hid ((Below.refl _ _).alloc (Nat.le_refl _) _)
  have BX := Lib.hid (heap_alloc_new w (.cells #[.int .i64 5, .string ByteArray.empty, .slice A2 0 c2, .slice A3 ts.length c3] 42))
  clear hT IH
  go_enter Tryd.func54, Tryd.ntmps54
  go_wp2_with (first | (go_at_call 67; refine (zzEmptyArray_any _).mono ?_; rintro e w1 ⟨b, r, a, rfl, hn, hr, ha, hb⟩; go_loud (have z3 := cell_of_row _ _ 3 _ _ _ ((hb.block w.heap.size (by simp)).trans BX.out); have HS := Lib.hid (arr_start (ts := ts) HB0.out hn hr ha hb)); clear hn hr ha hb) | fail)
  obtain ⟨nv, col, HV⟩ := HS.out
  clear z3 HS
  go_loopw [43] (fun i wr => ∃ (n : Nat) (vs : List Value) (col : Nat → Option Nat) (nv : Value), n ≤ ts.length ∧ i = .int .i64 n ∧ Hid (ArrInv w b r a n vs ts col nv wr)) (fun i _ => ts.length - (intOf i).toNat)
  case atStart => exact ⟨0, [], col, nv, Nat.zero_le _, rfl, Lib.hid HV⟩
  case round =>
    obtain ⟨n, vs, col, nv, hn, rfl, HV⟩ := hrel
    by_cases hlt : n < ts.length
    · obtain ⟨ad, B2, d2, B3, d3, hA3, k0, k1, k2, k3, hkid⟩ := (HT.out.below' HV.out.below).kid hlt
      obtain ⟨f0, hf0⟩ : ∃ x, ts[n].f0 = x := ⟨_, rfl⟩
      obtain ⟨f1, hf1⟩ : ∃ x, ts[n].f1 = x := ⟨_, rfl⟩
      obtain ⟨n2, hn2⟩ : ∃ x, ts[n].f2.length = x := ⟨_, rfl⟩
      obtain ⟨n3, hn3⟩ : ∃ x, ts[n].f3.length = x := ⟨_, rfl⟩
      rw [hf0] at k0 hkid
      rw [hf1] at k1 hkid
      rw [hn2] at k2 hkid
      rw [hn3] at k3 hkid
      clear hf0 hf1 hn2 hn3
      have HK := Lib.hid hkid
      have hltI : (n : Int) < (ts.length : Int) := by omega
      obtain ⟨An, cn, hnv⟩ := own_slice HV.out.own
      obtain ⟨⟨self, hab⟩, -⟩ := HV.out.ary
      have cb2 := cell_of_row _ b 2 _ _ _ HV.out.node.2
      have ca1 := cell_of_row _ a 1 _ _ _ hab
      have HAB := Lib.hid hab
      rw [HV.out.len] at hnv
      subst hnv
      subst hA3
      clear hkid hab
      obtain ⟨w1, hw1⟩ : ∃ W : World, wr.alloc (.cells #[.int .i64 f0, .string f1, .slice B2 n2 d2, .slice B3 n3 d3] 42) = W := ⟨_, rfl⟩
      have hb1 : Below wr.heap.size wr w1 := by rw [← hw1]; exact (Below.refl _ _).alloc (Nat.le_refl _) _
      have hbx : w1.heap[wr.heap.size]? = some (.cells #[.int .i64 f0, .string f1, .slice B2 n2 d2, .slice B3 n3 d3] 42 (0, 0)) := by rw [← hw1]; exact heap_alloc_new _ _
      have hs1 : w1.heap.size = wr.heap.size + 1 := by rw [← hw1]; simp
      have la := (Array.getElem?_eq_some_iff.1 HAB.out).1
      have lb := HV.out.node.lt
      have ha1 : w1.heap[a]? = _ := (hb1.block a la).trans HAB.out
      have hbb1 : w1.heap[b]? = _ := (hb1.block b lb).trans HV.out.node.2
      have ho1 : w1.ownsRow 0 62 1 (.slice An n cn) n vs := by
        have := pw_own_below HV.out.own hb1
        rwa [HV.out.len] at this
      have HC : Hid (∀ W, Below w1.heap.size w1 W → (W.cell? ⟨b, 2, none⟩ = some (pv a) ∧ W.cell? ⟨wr.heap.size, 0, none⟩ = some (.int .i64 f0) ∧ W.cell? ⟨wr.heap.size, 1, none⟩ = some (.string f1) ∧ W.cell? ⟨wr.heap.size, 2, none⟩ = some (.slice B2 n2 d2) ∧ W.cell? ⟨wr.heap.size, 3, none⟩ = some (.slice B3 n3 d3)) ∧ W.cell? ⟨a, 1, none⟩ = some (.slice An n cn) ∧ W.ownsRow 0 62 1 (.slice An n cn) n vs ∧ TR W (All W) ts[n] [.int .i64 f0, .string f1, .slice B2 n2 d2, .slice B3 n3 d3]) := Lib.hid fun W hW => by
        have e1 : W.heap[wr.heap.size]? = _ := (hW.block _ (by omega)).trans hbx
        have e2 : W.heap[b]? = _ := (hW.block b (by omega)).trans hbb1
        have e3 : W.heap[a]? = _ := (hW.block a (by omega)).trans ha1
        exact ⟨⟨cell_of_row _ b 2 _ _ _ e2, cell_of_row _ _ 0 _ _ _ e1, cell_of_row _ _ 1 _ _ _ e1, cell_of_row _ _ 2 _ _ _ e1, cell_of_row _ _ 3 _ _ _ e1⟩, cell_of_row _ a 1 _ _ _ e3, pw_own_below ho1 hW, (HK.out.below' hb1).below' hW⟩
      have HG : Hid (∀ W W4 : World, Below w1.heap.size w1 W → W.grownBy W4 (Value.slice An n cn).ownBlock → W4.cell? ⟨a, 1, none⟩ = some (.slice An n cn) ∧ W4.frozen? ⟨a, 1, none⟩ = false ∧ ∀ u, ((W4.setCell ⟨a, 1, none⟩ u).cell? ⟨b, 2, none⟩ = some (pv a) ∧ (W4.setCell ⟨a, 1, none⟩ u).cell? ⟨wr.heap.size, 0, none⟩ = some (.int .i64 f0) ∧ (W4.setCell ⟨a, 1, none⟩ u).cell? ⟨wr.heap.size, 1, none⟩ = some (.string f1) ∧ (W4.setCell ⟨a, 1, none⟩ u).cell? ⟨wr.heap.size, 2, none⟩ = some (.slice B2 n2 d2) ∧ (W4.setCell ⟨a, 1, none⟩ u).cell? ⟨wr.heap.size, 3, none⟩ = some (.slice B3 n3 d3)) ∧ (W4.cell? ⟨b, 2, none⟩ = some (pv a) ∧ W4.cell? ⟨wr.heap.size, 0, none⟩ = some (.int .i64 f0) ∧ W4.cell? ⟨wr.heap.size, 1, none⟩ = some (.string f1) ∧ W4.cell? ⟨wr.heap.size, 2, none⟩ = some (.slice B2 n2 d2) ∧ W4.cell? ⟨wr.heap.size, 3, none⟩ = some (.slice B3 n3 d3))) := Lib.hid fun W W4 hW hg => by
        have hws := hW.size
        have e1 : W4.heap[wr.heap.size]? = _ := (hg.block _ (by omega) (fun q => own_ne ho1 hbx (by decide) q)).trans ((hW.block _ (by omega)).trans hbx)
        have e2 : W4.heap[b]? = _ := (hg.block b (by omega) (fun q => own_ne ho1 hbb1 (by decide) q)).trans ((hW.block b (by omega)).trans hbb1)
        have e3 : W4.heap[a]? = _ := (hg.block a (by omega) (fun q => own_ne ho1 ha1 (by decide) q)).trans ((hW.block a (by omega)).trans ha1)
        have nb : b ≠ a := by rintro rfl; rw [hbb1] at ha1; cases ha1
        have e4 : ∀ u, (W4.setCell ⟨a, 1, none⟩ u).heap[wr.heap.size]? = _ := fun u => (Below.heap_setCell _ _ _ _ (by simp; omega)).trans e1
        have e5 : ∀ u, (W4.setCell ⟨a, 1, none⟩ u).heap[b]? = _ := fun u => (Below.heap_setCell _ _ _ _ nb).trans e2
        exact ⟨cell_of_row _ a 1 _ _ _ e3, Go.frozen_of_row _ a 1 _ _ e3, fun u => ⟨⟨cell_of_row _ b 2 _ _ _ (e5 u), cell_of_row _ _ 0 _ _ _ (e4 u), cell_of_row _ _ 1 _ _ _ (e4 u), cell_of_row _ _ 2 _ _ _ (e4 u), cell_of_row _ _ 3 _ _ _ (e4 u)⟩, ⟨cell_of_row _ b 2 _ _ _ e2, cell_of_row _ _ 0 _ _ _ e1, cell_of_row _ _ 1 _ _ _ e1, cell_of_row _ _ 2 _ _ _ e1, cell_of_row _ _ 3 _ _ _ e1⟩⟩⟩
      have HB1 := Lib.hid hb1
      have HS1 := Lib.hid hs1
      obtain ⟨i0, hi0, hz0, hz1, hz2⟩ := info_parts infoP
      clear hb1 hbx hs1 la lb ha1 hbb1 ho1
      go_wp2_with fail
      clear hw1
      obtain ⟨p0, p1, p2, p3⟩ := HC.out w1 (Below.refl _ _)
      clear p2 p3
      refine wp_region_held_drew (S := (fun w' => w'.cell? ⟨b, 2, none⟩ = some (pv a) ∧ w'.cell? ⟨wr.heap.size, 0, none⟩ = some (.int .i64 f0) ∧ w'.cell? ⟨wr.heap.size, 1, none⟩ = some (.string f1) ∧ w'.cell? ⟨wr.heap.size, 2, none⟩ = some (.slice B2 n2 d2) ∧ w'.cell? ⟨wr.heap.size, 3, none⟩ = some (.slice B3 n3 d3))) (by kernel_rfl) p0 (fun hHeld => ?_)
      refine wpAnyH_take (i := 0) (v := ?_) rfl (by kernel_rfl) (by kernel_rfl) (by kernel_rfl) (fun _ _ _ h => h) (Or.inl ⟨by rfl, ?_⟩) (by assumption) ?_
      rotate_left
      · intro W hSw; (try dsimp only at hSw); go_simp; (try with_reducible rfl)
      try simp only [Act.put, List.setIfInBounds_toArray, List.set_cons_zero, List.set_cons_succ]
      refine wpAnyH_take (i := 1) (v := ?_) rfl (by kernel_rfl) (by kernel_rfl) (by kernel_rfl) (fun _ _ _ h => h) (Or.inl ⟨by rfl, ?_⟩) (by assumption) ?_
      rotate_left
      · intro W hSw; (try dsimp only at hSw); go_simp; (try with_reducible rfl)
      try simp only [Act.put, List.setIfInBounds_toArray, List.set_cons_zero, List.set_cons_succ]
      refine wpAnyH_take (i := 2) (v := ?_) rfl (by kernel_rfl) (by kernel_rfl) (by kernel_rfl) (fun _ _ _ h => h) (Or.inl ⟨by rfl, ?_⟩) (by assumption) ?_
      rotate_left
      · intro W hSw; (try dsimp only at hSw); go_simp; (try with_reducible rfl)
      try simp only [Act.put, List.setIfInBounds_toArray, List.set_cons_zero, List.set_cons_succ]
      refine wpAnyH_take (i := 3) (v := ?_) rfl (by kernel_rfl) (by kernel_rfl) (by kernel_rfl) (fun _ _ _ h => h) (Or.inl ⟨by rfl, ?_⟩) (by assumption) ?_
      rotate_left
      · intro W hSw; (try dsimp only at hSw); go_simp; (try with_reducible rfl)
      try simp only [Act.put, List.setIfInBounds_toArray, List.set_cons_zero, List.set_cons_succ]
      refine wpAnyH_take (i := 4) (v := ?_) rfl (by kernel_rfl) (by kernel_rfl) (by kernel_rfl) (fun _ _ _ h => h) (Or.inl ⟨by rfl, ?_⟩) (by assumption) ?_
      rotate_left
      · intro W hSw; (try dsimp only at hSw); go_simp; (try with_reducible rfl)
      try simp only [Act.put, List.setIfInBounds_toArray, List.set_cons_zero, List.set_cons_succ]
      refine wpAnyH_take (i := 5) (v := ?_) rfl (by kernel_rfl) (by kernel_rfl) (by kernel_rfl) (fun _ _ _ h => h) (Or.inl ⟨by rfl, ?_⟩) (by assumption) ?_
      rotate_left
      · intro W hSw; (try dsimp only at hSw); go_simp; (try with_reducible rfl)
      try simp only [Act.put, List.setIfInBounds_toArray, List.set_cons_zero, List.set_cons_succ]
      refine wpAnyH_take (i := 6) (v := ?_) rfl (by kernel_rfl) (by kernel_rfl) (by kernel_rfl) (fun _ _ _ h => h) (Or.inl ⟨by rfl, ?_⟩) (by assumption) ?_
      rotate_left
      · intro W hSw; (try dsimp only at hSw); go_simp; (try with_reducible rfl)
      try simp only [Act.put, List.setIfInBounds_toArray, List.set_cons_zero, List.set_cons_succ]
      refine wpAnyH_take (i := 7) (v := ?_) rfl (by kernel_rfl) (by kernel_rfl) (by kernel_rfl) (fun _ _ _ h => h) (Or.inl ⟨by rfl, ?_⟩) (by assumption) ?_
      rotate_left
      · intro W hSw; (try dsimp only at hSw); go_simp; (try with_reducible rfl)
      try simp only [Act.put, List.setIfInBounds_toArray, List.set_cons_zero, List.set_cons_succ]
      refine wpAnyH_take (i := 8) (v := ?_) rfl (by kernel_rfl) (by kernel_rfl) (by kernel_rfl) (fun _ _ _ h => h) (Or.inl ⟨by rfl, ?_⟩) (by assumption) ?_
      rotate_left
      · intro W hSw; (try dsimp only at hSw); go_simp; (try with_reducible rfl)
      try simp only [Act.put, List.setIfInBounds_toArray, List.set_cons_zero, List.set_cons_succ]
      refine wpAnyH_take (i := 9) (v := ?_) rfl (by kernel_rfl) (by kernel_rfl) (by kernel_rfl) (fun _ _ _ h => h) (Or.inl ⟨by rfl, ?_⟩) (by assumption) ?_
      rotate_left
      · intro W hSw; (try dsimp only at hSw); go_simp; (try with_reducible rfl)
      try simp only [Act.put, List.setIfInBounds_toArray, List.set_cons_zero, List.set_cons_succ]
      refine wpAnyH_take (i := 11) (v := ?_) rfl (by kernel_rfl) (by kernel_rfl) (by kernel_rfl) (fun _ _ _ h => h) (Or.inl ⟨by rfl, ?_⟩) (by assumption) ?_
      rotate_left
      · intro W hSw; (try dsimp only at hSw); go_simp; (try with_reducible rfl)
      try simp only [Act.put, List.setIfInBounds_toArray, List.set_cons_zero, List.set_cons_succ]
      refine wpAnyH_take (i := 12) (v := ?_) rfl (by kernel_rfl) (by kernel_rfl) (by kernel_rfl) (fun _ _ _ h => h) (Or.inl ⟨by rfl, ?_⟩) (by assumption) ?_
      rotate_left
      · intro W hSw; (try dsimp only at hSw); go_simp; (try with_reducible rfl)
      try simp only [Act.put, List.setIfInBounds_toArray, List.set_cons_zero, List.set_cons_succ]
      refine wpAnyH_ready (rs := [10, 13]) (by kernel_rfl) (by simp) ?_
      refine AllReadyH.cons (o := _) rfl (fun K hK => ?_) ?_
      ·
        go_simp
        refine hK.out _ _ (by first | exact p0 | exact q0 | exact q1 | exact r1 | exact (r0 _)) (fun hHeld => ?_)
        clear hK K
        try simp only [Act.put, List.setIfInBounds_toArray, List.set_cons_zero, List.set_cons_succ]
        refine wpAnyH_ready (rs := [13]) (by kernel_rfl) (by simp) ?_
        refine AllReadyH.cons (o := _) rfl (fun K hK => ?_) ?_
        ·
          go_simp
          go_at_call 54
          refine (HI.out _ _ [.int .i64 f0, .string f1, .slice B2 n2 d2, .slice B3 n3 d3] (List.getElem_mem hlt) (HC.out _ (Below.refl _ _).drew).2.2.2).mono ?_
          rintro e w2 ⟨v, rfl, hv, hb2⟩
          obtain ⟨pt, rfl⟩ := hv.ptr
          obtain ⟨q0, q2, -⟩ := HC.out w2 ((Below.refl _ _).drew.trans hb2)
          obtain ⟨q1, q3, how, -⟩ := HC.out (w2.alloc (.cells #[.pointer pt] 62)) ((Below.refl _ _).drew.trans (hb2.alloc hb2.size _))
          have HOW := Lib.hid how
          have HW := Lib.hid (And.intro hv hb2)
          clear hv hb2 how
          refine hK.out _ _ (by first | exact p0 | exact q0 | exact q1 | exact r1 | exact (r0 _)) (fun hHeld => ?_)
          clear hK K
          try simp only [Act.put, List.setIfInBounds_toArray, List.set_cons_zero, List.set_cons_succ]
          refine wpAnyH_ready (rs := [14]) (by kernel_rfl) (by simp) ?_
          refine AllReadyH.cons (o := _) rfl (fun K hK => ?_) ?_
          ·
            go_simp
            refine hK.out _ _ (by first | exact p0 | exact q0 | exact q1 | exact r1 | exact (r0 _)) (fun hHeld => ?_)
            clear hK K
            try simp only [Act.put, List.setIfInBounds_toArray, List.set_cons_zero, List.set_cons_succ]
            refine wpAnyH_ready (rs := [15]) (by kernel_rfl) (by simp) ?_
            refine AllReadyH.cons (o := _) rfl (fun K hK => ?_) ?_
            ·
              refine step_append_lies _ rfl (.tmp 57) (.tmp 61) 98 rfl 0 62 i0 (.pointer none) 1 8 Tryd.underlying98 hi0 hz0 hz1 hz2 rfl (by decide) (.slice An n cn) n vs rfl HOW.out ⟨w2.heap.size, 0, none⟩ 1 1 [.pointer pt] rfl rfl (World.news_of_block (cs := #[.pointer pt]) (heap_alloc_new w2 _)) (by intro u hu; simp at hu; subst hu; rfl) (by decide) (by unfold maxLen; omega) (by omega) (Nat.zero_le _) _ rfl ?_
              intro gg cap w4 hown4 hg4 hat4 hlt4
              obtain ⟨r2, r3, r01⟩ := HG.out _ _ ((Below.refl _ _).drew.trans (HW.out.2.alloc HW.out.2.size _)) hg4
              have r0 := fun u => (r01 u).1
              have r1 := (r01 undef).2
              have H4 := Lib.hid (And.intro hown4 (And.intro hg4 hat4))
              clear hown4 hg4 hat4 hlt4 r01
              refine hK.out _ _ (by first | exact p0 | exact q0 | exact q1 | exact r1 | exact (r0 _)) (fun hHeld => ?_)
              clear hK K
              try simp only [Act.put, List.setIfInBounds_toArray, List.set_cons_zero, List.set_cons_succ]
              refine wpAnyH_take (i := 16) (v := ?_) rfl (by kernel_rfl) (by kernel_rfl) (by kernel_rfl) (fun _ _ _ h => h) (Or.inl ⟨by rfl, ?_⟩) (by assumption) ?_
              rotate_left
              · intro W hSw; (try dsimp only at hSw); go_simp; (try with_reducible rfl)
              try simp only [Act.put, List.setIfInBounds_toArray, List.set_cons_zero, List.set_cons_succ]
              refine wpAnyH_take (i := 17) (v := ?_) rfl (by kernel_rfl) (by kernel_rfl) (by kernel_rfl) (fun _ _ _ h => h) (Or.inl ⟨by rfl, ?_⟩) (by assumption) ?_
              rotate_left
              · intro W hSw; (try dsimp only at hSw); go_simp; (try with_reducible rfl)
              try simp only [Act.put, List.setIfInBounds_toArray, List.set_cons_zero, List.set_cons_succ]
              refine wpAnyH_ready (rs := [18]) (by kernel_rfl) (by simp) ?_
              refine AllReadyH.cons (o := _) rfl (fun K hK => ?_) ?_
              ·
                go_simp
                refine hK.out _ _ (by first | exact p0 | exact q0 | exact q1 | exact r1 | exact (r0 _)) (fun hHeld => ?_)
                clear hK K
                try simp only [Act.put, List.setIfInBounds_toArray, List.set_cons_zero, List.set_cons_succ]
                refine wpAnyH_done (by kernel_rfl) ?_ _
                go_wp2; exact arr_round ts.length (arr_step HV.out hlt HB1.out.drew HW.out.1 HW.out.2 ((Below.refl _ _).alloc (Nat.le_refl _) _) H4.out.1 H4.out.2.1 (H4.out.2.2.imp id (fun e => by rw [e]; simp))) hlt
              exact AllReadyH.nil
            exact AllReadyH.nil
          exact AllReadyH.nil
        exact AllReadyH.nil
      refine AllReadyH.cons (o := _) rfl (fun K hK => ?_) ?_
      ·
        go_simp
        go_at_call 54
        refine (HI.out _ _ [.int .i64 f0, .string f1, .slice B2 n2 d2, .slice B3 n3 d3] (List.getElem_mem hlt) (HC.out _ (Below.refl _ _).drew).2.2.2).mono ?_
        rintro e w2 ⟨v, rfl, hv, hb2⟩
        obtain ⟨pt, rfl⟩ := hv.ptr
        obtain ⟨q0, q2, -⟩ := HC.out w2 ((Below.refl _ _).drew.trans hb2)
        obtain ⟨q1, q3, how, -⟩ := HC.out (w2.alloc (.cells #[.pointer pt] 62)) ((Below.refl _ _).drew.trans (hb2.alloc hb2.size _))
        have HOW := Lib.hid how
        have HW := Lib.hid (And.intro hv hb2)
        clear hv hb2 how
        refine hK.out _ _ (by first | exact p0 | exact q0 | exact q1 | exact r1 | exact (r0 _)) (fun hHeld => ?_)
        clear hK K
        try simp only [Act.put, List.setIfInBounds_toArray, List.set_cons_zero, List.set_cons_succ]
        refine wpAnyH_ready (rs := [10, 14]) (by kernel_rfl) (by simp) ?_
        refine AllReadyH.cons (o := _) rfl (fun K hK => ?_) ?_
        ·
          go_simp
          refine hK.out _ _ (by first | exact p0 | exact q0 | exact q1 | exact r1 | exact (r0 _)) (fun hHeld => ?_)
          clear hK K
          try simp only [Act.put, List.setIfInBounds_toArray, List.set_cons_zero, List.set_cons_succ]
          refine wpAnyH_ready (rs := [14]) (by kernel_rfl) (by simp) ?_
          refine AllReadyH.cons (o := _) rfl (fun K hK => ?_) ?_
          ·
            go_simp
            refine hK.out _ _ (by first | exact p0 | exact q0 | exact q1 | exact r1 | exact (r0 _)) (fun hHeld => ?_)
            clear hK K
            try simp only [Act.put, List.setIfInBounds_toArray, List.set_cons_zero, List.set_cons_succ]
            refine wpAnyH_ready (rs := [15]) (by kernel_rfl) (by simp) ?_
            refine AllReadyH.cons (o := _) rfl (fun K hK => ?_) ?_
            ·
              refine step_append_lies _ rfl (.tmp 57) (.tmp 61) 98 rfl 0 62 i0 (.pointer none) 1 8 Tryd.underlying98 hi0 hz0 hz1 hz2 rfl (by decide) (.slice An n cn) n vs rfl HOW.out ⟨w2.heap.size, 0, none⟩ 1 1 [.pointer pt] rfl rfl (World.news_of_block (cs := #[.pointer pt]) (heap_alloc_new w2 _)) (by intro u hu; simp at hu; subst hu; rfl) (by decide) (by unfold maxLen; omega) (by omega) (Nat.zero_le _) _ rfl ?_
              intro gg cap w4 hown4 hg4 hat4 hlt4
              obtain ⟨r2, r3, r01⟩ := HG.out _ _ ((Below.refl _ _).drew.trans (HW.out.2.alloc HW.out.2.size _)) hg4
              have r0 := fun u => (r01 u).1
              have r1 := (r01 undef).2
              have H4 := Lib.hid (And.intro hown4 (And.intro hg4 hat4))
              clear hown4 hg4 hat4 hlt4 r01
              refine hK.out _ _ (by first | exact p0 | exact q0 | exact q1 | exact r1 | exact (r0 _)) (fun hHeld => ?_)
              clear hK K
              try simp only [Act.put, List.setIfInBounds_toArray, List.set_cons_zero, List.set_cons_succ]
              refine wpAnyH_take (i := 16) (v := ?_) rfl (by kernel_rfl) (by kernel_rfl) (by kernel_rfl) (fun _ _ _ h => h) (Or.inl ⟨by rfl, ?_⟩) (by assumption) ?_
              rotate_left
              · intro W hSw; (try dsimp only at hSw); go_simp; (try with_reducible rfl)
              try simp only [Act.put, List.setIfInBounds_toArray, List.set_cons_zero, List.set_cons_succ]
              refine wpAnyH_take (i := 17) (v := ?_) rfl (by kernel_rfl) (by kernel_rfl) (by kernel_rfl) (fun _ _ _ h => h) (Or.inl ⟨by rfl, ?_⟩) (by assumption) ?_
              rotate_left
              · intro W hSw; (try dsimp only at hSw); go_simp; (try with_reducible rfl)
              try simp only [Act.put, List.setIfInBounds_toArray, List.set_cons_zero, List.set_cons_succ]
              refine wpAnyH_ready (rs := [18]) (by kernel_rfl) (by simp) ?_
              refine AllReadyH.cons (o := _) rfl (fun K hK => ?_) ?_
              ·
                go_simp
                refine hK.out _ _ (by first | exact p0 | exact q0 | exact q1 | exact r1 | exact (r0 _)) (fun hHeld => ?_)
                clear hK K
                try simp only [Act.put, List.setIfInBounds_toArray, List.set_cons_zero, List.set_cons_succ]
                refine wpAnyH_done (by kernel_rfl) ?_ _
                go_wp2; exact arr_round ts.length (arr_step HV.out hlt HB1.out.drew HW.out.1 HW.out.2 ((Below.refl _ _).alloc (Nat.le_refl _) _) H4.out.1 H4.out.2.1 (H4.out.2.2.imp id (fun e => by rw [e]; simp))) hlt
              exact AllReadyH.nil
            exact AllReadyH.nil
          exact AllReadyH.nil
        refine AllReadyH.cons (o := _) rfl (fun K hK => ?_) ?_
        ·
          go_simp
          refine hK.out _ _ (by first | exact p0 | exact q0 | exact q1 | exact r1 | exact (r0 _)) (fun hHeld => ?_)
          clear hK K
          try simp only [Act.put, List.setIfInBounds_toArray, List.set_cons_zero, List.set_cons_succ]
          refine wpAnyH_ready (rs := [10]) (by kernel_rfl) (by simp) ?_
          refine AllReadyH.cons (o := _) rfl (fun K hK => ?_) ?_
          ·
            go_simp
            refine hK.out _ _ (by first | exact p0 | exact q0 | exact q1 | exact r1 | exact (r0 _)) (fun hHeld => ?_)
            clear hK K
            try simp only [Act.put, List.setIfInBounds_toArray, List.set_cons_zero, List.set_cons_succ]
            refine wpAnyH_ready (rs := [15]) (by kernel_rfl) (by simp) ?_
            refine AllReadyH.cons (o := _) rfl (fun K hK => ?_) ?_
            ·
              refine step_append_lies _ rfl (.tmp 57) (.tmp 61) 98 rfl 0 62 i0 (.pointer none) 1 8 Tryd.underlying98 hi0 hz0 hz1 hz2 rfl (by decide) (.slice An n cn) n vs rfl HOW.out ⟨w2.heap.size, 0, none⟩ 1 1 [.pointer pt] rfl rfl (World.news_of_block (cs := #[.pointer pt]) (heap_alloc_new w2 _)) (by intro u hu; simp at hu; subst hu; rfl) (by decide) (by unfold maxLen; omega) (by omega) (Nat.zero_le _) _ rfl ?_
              intro gg cap w4 hown4 hg4 hat4 hlt4
              obtain ⟨r2, r3, r01⟩ := HG.out _ _ ((Below.refl _ _).drew.trans (HW.out.2.alloc HW.out.2.size _)) hg4
              have r0 := fun u => (r01 u).1
              have r1 := (r01 undef).2
              have H4 := Lib.hid (And.intro hown4 (And.intro hg4 hat4))
              clear hown4 hg4 hat4 hlt4 r01
              refine hK.out _ _ (by first | exact p0 | exact q0 | exact q1 | exact r1 | exact (r0 _)) (fun hHeld => ?_)
              clear hK K
              try simp only [Act.put, List.setIfInBounds_toArray, List.set_cons_zero, List.set_cons_succ]
              refine wpAnyH_take (i := 16) (v := ?_) rfl (by kernel_rfl) (by kernel_rfl) (by kernel_rfl) (fun _ _ _ h => h) (Or.inl ⟨by rfl, ?_⟩) (by assumption) ?_
              rotate_left
              · intro W hSw; (try dsimp only at hSw); go_simp; (try with_reducible rfl)
              try simp only [Act.put, List.setIfInBounds_toArray, List.set_cons_zero, List.set_cons_succ]
              refine wpAnyH_take (i := 17) (v := ?_) rfl (by kernel_rfl) (by kernel_rfl) (by kernel_rfl) (fun _ _ _ h => h) (Or.inl ⟨by rfl, ?_⟩) (by assumption) ?_
              rotate_left
              · intro W hSw; (try dsimp only at hSw); go_simp; (try with_reducible rfl)
              try simp only [Act.put, List.setIfInBounds_toArray, List.set_cons_zero, List.set_cons_succ]
              refine wpAnyH_ready (rs := [18]) (by kernel_rfl) (by simp) ?_
              refine AllReadyH.cons (o := _) rfl (fun K hK => ?_) ?_
              ·
                go_simp
                refine hK.out _ _ (by first | exact p0 | exact q0 | exact q1 | exact r1 | exact (r0 _)) (fun hHeld => ?_)
                clear hK K
                try simp only [Act.put, List.setIfInBounds_toArray, List.set_cons_zero, List.set_cons_succ]
                refine wpAnyH_done (by kernel_rfl) ?_ _
                go_wp2; exact arr_round ts.length (arr_step HV.out hlt HB1.out.drew HW.out.1 HW.out.2 ((Below.refl _ _).alloc (Nat.le_refl _) _) H4.out.1 H4.out.2.1 (H4.out.2.2.imp id (fun e => by rw [e]; simp))) hlt
              exact AllReadyH.nil
            exact AllReadyH.nil
          exact AllReadyH.nil
        exact AllReadyH.nil
      exact AllReadyH.nil
    · have hge : ¬ (n : Int) < (ts.length : Int) := by omega
      go_wp2
      go_ret
      exact arr_end HV.out (by omega)

/-- What holds in the loop over an object's kids: n of them are members. -/
structure ObjInv (w : World) (b r d m n : Nat) (ks : List ByteArray) (f : ByteArray → Value) (tr : ByteArray → S25) (col : Nat → Option ByteArray) (wr : World) : Prop where
  below : Below w.heap.size w wr
  node : NodeAt wr (fun i => New w i ∧ col i = none) b r (pv d) (.pointer none) 1
  raw : RawAt wr (fun i => New w i ∧ col i = none) r [123, 125]
  doc : DocAt wr (fun i => New w i ∧ col i = none) d m (ks.take n) f
  kids : ∀ k, k ∈ ks.take n → LN false wr (f k) (tr k) (fun j => New w j ∧ col j = some k)
theorem obj_start {w W w1 : World} {b r d m : Nat} {ks : List ByteArray} {tr : ByteArray → S25} {opts : Value} (h0 : Below w.heap.size w W) (hn : NodeAt w1 (New W) b r (pv d) (.pointer none) 1) (hr : RawAt w1 (New W) r [123, 125]) (hd : w1.heap[d]? = some (.cells #[.pointer none, .slice none 0 0, .map (some m), opts] 97 (0, 0)))
    (ha : ∀ f, DocAt w1 (New W) d m [] f) (hb : Below W.heap.size W w1) (o : Value) : ∃ f col, ObjInv w b r d m 0 ks f tr col (w1.setCell ⟨d, 3, none⟩ o) := by
  have hs := h0.size
  have hs1 := hb.size
  have hO : ∀ i, New W i → New w i ∧ (none : Option ByteArray) = none := fun i hi => ⟨by unfold New at *; omega, rfl⟩
  obtain ⟨self, kv, op, h1, h2, h3, h4, h5, h6, h7, h8⟩ := ha (fun _ => .pointer none)
  have hnb : b ≠ d := by rintro rfl; rw [hn.2] at hd; cases hd
  have hst : Only (fun i => i = d) w1 (w1.setCell ⟨d, 3, none⟩ o) := Only.set _ d 3 o rfl
  have hd2 := heap_setCell_same _ d 3 _ _ o h1
  refine ⟨fun _ => .pointer none, fun _ => none, (h0.trans (hb.mono hs)).trans (hst.below (fun i _ hi => by subst hi; unfold New at h4; omega) (by omega)), ?_, ?_, ?_, fun k hk => by simp at hk⟩
  · exact hn.other hst (fun i _ hi => by subst hi; exact .inl ⟨_, _, _, hd, by decide⟩) (fun i _ hi => hO i hi)
  · exact hr.other hst (fun i _ hi => by subst hi; exact .inl ⟨_, _, _, hd, by decide, by decide⟩) (fun i _ hi => hO i hi)
  · refine ⟨self, kv, o, by simpa using hd2, ?_, ?_, hO d h4, hO m h5, fun k hk => hO k (h6 k hk), h7, h8⟩
    · exact own_setCell h2 (p := ⟨d, 3, none⟩) (fun q => own_ne h2 h1 (by decide) q) o
    · exact h3.move (Below.heap_setCell _ _ _ _ (fun q => map_block h3 h1 q.symm))
theorem obj_end {w wr : World} {b r d m n : Nat} {ks : List ByteArray} {f : ByteArray → Value} {tr : ByteArray → S25} {col : Nat → Option ByteArray} (h : ObjInv w b r d m n ks f tr col wr) (hn : n = ks.length) : NodePost w ⟨6, ByteArray.empty, ks, ks.map tr⟩ (.returned (pv b)) wr := by
  have hd := h.doc
  have hk := h.kids
  rw [hn, List.take_length] at hd hk
  exact ⟨_, rfl, .obj b r d m (New w) col ks f tr h.node h.raw hd hk, h.below⟩
theorem obj_step {w wr w1 w2 w3 : World} {b r d m n : Nat} {ks : List ByteArray} {f : ByteArray → Value} {tr : ByteArray → S25} {col : Nat → Option ByteArray} {v : Value} {O : Nat → Prop} (h : ObjInv w b r d m n ks f tr col wr) (hn : n < ks.length) (hnd : ks.Nodup)
    (hb1 : Below wr.heap.size wr w1) (hv : LN false w2 v (tr ks[n]) (New w1)) (hb2 : Below w1.heap.size w1 w2) (hO : ∀ i, O i → New w i ∧ col i = none ∧ i < wr.heap.size) (hOt : ∀ i, O i → (∃ cells t fr, w2.heap[i]? = some (.cells cells t fr) ∧ (t = 97 ∨ t = 9)) ∨ ∃ es c, w2.heap[i]? = some (.map es c))
    (hs : DocAt w3 (fun i => O i ∨ w2.heap.size ≤ i) d m (setK (ks.take n) ks[n]) (setF f ks[n] v)) (ho : Only O w2 w3) : ∃ f col, ObjInv w b r d m (n + 1) ks f tr col w3 := by
  have hbelow := h.below
  have s0 := hbelow.size
  have s1 := hb1.size
  have s2 := hb2.size
  have s3 := ho.size
  have hnew : ks[n] ∉ ks.take n := by
    intro q
    obtain ⟨i, hi, e⟩ := List.getElem_of_mem q
    rw [List.getElem_take] at e
    have hi' : i < n := by simp at hi; omega
    have := List.pairwise_iff_getElem.1 hnd i n (by omega) hn hi'
    exact this e
  have hset : setK (ks.take n) ks[n] = ks.take (n + 1) := by
    unfold setK
    rw [if_neg (fun q => hnew (inL_iff.1 q)), List.take_succ_eq_append_getElem hn]
  rw [hset] at hs
  have hb3 : Only (fun _ => False) wr w2 := (Only.of_below hb1).trans (Only.of_below hb2) (fun _ _ q => q) (fun _ _ q => q)
  have hcol : ∀ j, j < wr.heap.size → (if w1.heap.size ≤ j then (if j < w2.heap.size then some ks[n] else none) else col j) = col j := fun j hj => if_neg (by omega)
  refine ⟨setF f ks[n] v, fun j => if w1.heap.size ≤ j then (if j < w2.heap.size then some ks[n] else none) else col j, ?_, ?_, ?_, ?_, ?_⟩
  · exact (hbelow.trans (hb3.below (B := w.heap.size) (fun _ _ q => q.elim) s0)).trans (ho.below (fun i _ hi => (hO i hi).1) (by omega))
  · have hn2 := h.node.step hb3 (fun _ _ _ q => q) (fun i hi hs => (⟨hi, hs⟩ : i < wr.heap.size ∧ New w i ∧ col i = none))
    exact hn2.other ho (fun i _ hi => (hOt i hi).imp (fun ⟨c, t, fr, e, ht⟩ => ⟨c, t, fr, e, by rcases ht with rfl | rfl <;> decide⟩) id) (fun i _ hi => ⟨hi.2.1, by rw [hcol i hi.1]; exact hi.2.2⟩)
  · have hn2 := h.raw.step hb3 (fun _ _ _ q => q) (fun i hi hs => (⟨hi, hs⟩ : i < wr.heap.size ∧ New w i ∧ col i = none))
    exact hn2.other ho (fun i _ hi => (hOt i hi).imp (fun ⟨c, t, fr, e, ht⟩ => ⟨c, t, fr, e, by rcases ht with rfl | rfl <;> decide, by rcases ht with rfl | rfl <;> decide⟩) id) (fun i _ hi => ⟨hi.2.1, by rw [hcol i hi.1]; exact hi.2.2⟩)
  · refine hs.mono (fun i hi => ?_)
    rcases hi with hi | hi
    · obtain ⟨q1, q2, q3⟩ := hO i hi
      exact ⟨q1, by rw [hcol i q3]; exact q2⟩
    · exact ⟨by unfold New; omega, by rw [if_pos (by omega), if_neg (by omega)]⟩
  · intro k hk
    rw [List.take_succ_eq_append_getElem hn, List.mem_append] at hk
    by_cases e : k = ks[n]
    · subst e
      have : setF f ks[n] v ks[n] = v := by simp [setF]
      rw [this]
      refine hv.step ho (fun i hi hs q => ?_) (fun i hi hs => ⟨by unfold New at *; omega, ?_⟩)
      · have := (hO i q).2.2
        unfold New at hs
        omega
      · have hs : w1.heap.size ≤ i := hs
        rw [if_pos hs, if_pos hi]
    · have hk' : k ∈ ks.take n := hk.elim id (fun q => by simp at q; exact absurd q e)
      have : setF f ks[n] v k = f k := by simp [setF, e]
      rw [this]
      have hk2 := (h.kids k hk').step hb3 (fun _ _ _ q => q) (fun i hi hs => (⟨hi, hs⟩ : i < wr.heap.size ∧ New w i ∧ col i = some k))
      refine hk2.step ho (fun i hi hs q => ?_) (fun i hi hs => ⟨hs.2.1, by rw [hcol i hs.1]; exact hs.2.2⟩)
      have := (hO i q).2.1
      rw [hs.2.2] at this
      cases this
end Go.Proofs.YtdjogkfgegopfaaDoor
namespace Go.Proofs.YtdjogkfgegopfaaDoor
open Go.RowKit Go.Maps Go.Proofs.YtdjogkfgegopfaaDoor.MFnPaMergeAgain Go.Proofs.YtdjogkfgegopfaaDoor.Pure Go.Proofs.YtdjogkfgegopfaaDoorW.PrintWords Go.Proofs.YtdjogkfgegopfaaDoorW.PrintLast
set_option linter.unusedVariables false
set_option linter.unusedSimpArgs false

theorem obj_round {w W : World} {b r d m n : Nat} {ks : List ByteArray} {tr : ByteArray → S25} {X : Prop} (l : Nat) (h : ∃ f col, ObjInv w b r d m (n + 1) ks f tr col W) (hn : n < l) (hx : X) :
    (∃ (n_1 : Nat) (f : ByteArray → Value) (col : Nat → Option ByteArray), n_1 ≤ l ∧ Value.int IntKind.i64 ((n : Int) + 1) = Value.int IntKind.i64 (n_1 : Int) ∧ Hid (ObjInv w b r d m n_1 ks f tr col W) ∧ Hid X) ∧ l - (intOf (Value.int IntKind.i64 ((n : Int) + 1))).toNat < l - (intOf (Value.int IntKind.i64 (n : Int))).toNat := by
  obtain ⟨f, col, h⟩ := h
  exact ⟨⟨n + 1, f, col, by omega, by go_num, Lib.hid h, Lib.hid hx⟩, by simp [intOf]; omega⟩

set_option maxRecDepth 1000000 in
set_option maxHeartbeats 4000000 in
theorem node_obj (w : World) (ks : List ByteArray) (ts : List S25) (tr : ByteArray → S25) (A2 A3 : Option Addr) (c2 c3 : Nat) (o : Option Addr) (hT : TR w (All w) ⟨6, ByteArray.empty, ks, ts⟩ [.int .i64 6, .string ByteArray.empty, .slice A2 ks.length c2, .slice A3 ts.length c3]) (hl : ts.length ≤ 1099511627776) (hlk : ks.length = ts.length) (hnd : ks.Nodup) (hks : ∀ k, k ∈ ks → k.size ≤ maxLen)
    (htr : ts = ks.map tr) (IH : ∀ v W cs, v ∈ ts → TR W (All W) v cs → Calls Tryd.prog 54 #[.agg cs.toArray, .pointer o] W (NodePost W v)) :
    Calls Tryd.prog 54 #[.agg #[.int .i64 6, .string ByteArray.empty, .slice A2 ks.length c2, .slice A3 ts.length c3], .pointer o] w (NodePost w ⟨6, ByteArray.empty, ks, ks.map tr⟩) := by
  have HT := Lib.hid hT
  have HI := Lib.hid IH
  have HB0 : Hid (Below w.heap.size w (w.alloc (.cells #[.int .i64 6, .string ByteArray.empty, .slice A2 ks.length c2, .slice A3 ts.length c3] 42))) := Lib.hid ((Below.refl _ _).alloc (Nat.le_refl _) _)
  have BX := Lib.hid (heap_alloc_new w (.cells #[.int .i64 6, .string ByteArray.empty, .slice A2 ks.length c2, .slice A3 ts.length c3] 42))
  have HN := Lib.hid (And.intro hnd (And.intro hks (And.intro htr hlk)))
  clear hT IH hnd hks htr hlk
  go_enter Tryd.func54, Tryd.ntmps54
  go_wp2_with (first | (go_at_call 68; refine (zzEmptyObject_any _).mono ?_; rintro e w1 ⟨b, r, d, m, rfl, hn, hr, ha, hb, hd⟩; have hbx := (hb.block w.heap.size (by simp)).trans BX.out; have c1 := cell_of_row _ b 1 _ _ _ hn.2; have c2' := cell_of_row _ d 3 _ _ _ hd; have c3' := Go.frozen_of_row _ d 3 _ _ hd; have hne : d ≠ w.heap.size := (by rintro rfl; rw [hd] at hbx; cases hbx); have hbx2 := (Below.heap_setCell w1 ⟨d, 3, none⟩ (.pointer o) w.heap.size (fun q => hne q.symm)).trans hbx; have z3 := cell_of_row _ _ 3 _ _ _ hbx2; have HX := Lib.hid hbx2; have HS := Lib.hid (obj_start (ks := ks) (tr := tr) HB0.out hn hr hd ha hb (.pointer o)); clear hn hr ha hb hd hbx hne hbx2) | fail)
  obtain ⟨f, col, HV⟩ := HS.out
  have HX0 : Hid (w.heap.size < (w1.setCell ⟨d, 3, none⟩ (.pointer o)).heap.size) := Lib.hid (Array.getElem?_eq_some_iff.1 HX.out).1
  clear z3 HS c1 c2' c3'
  obtain ⟨W0, hW0⟩ : ∃ W : World, w1.setCell ⟨d, 3, none⟩ (.pointer o) = W := ⟨_, rfl⟩
  rw [hW0] at HX HX0 HV
  rw [hW0]
  clear hW0
  go_loopw [78] (fun i wr => ∃ (n : Nat) (f : ByteArray → Value) (col : Nat → Option ByteArray), n ≤ ts.length ∧ i = .int .i64 n ∧ Hid (ObjInv w b r d m n ks f tr col wr) ∧ Hid (wr.heap[w.heap.size]? = some (.cells #[.int .i64 6, .string ByteArray.empty, .slice A2 ks.length c2, .slice A3 ts.length c3] 42 (0, 0)))) (fun i _ => ts.length - (intOf i).toNat)
  case atStart => exact ⟨0, f, col, Nat.zero_le _, rfl, Lib.hid HV, HX⟩
  case round =>
    obtain ⟨n, f, col, hn, rfl, HV, HX⟩ := hrel
    by_cases hlt : n < ts.length
    · have hltk : n < ks.length := by have := HN.out.2.2.2; omega
      have hbw := HV.out.below
      obtain ⟨ad, B2, d2, B3, d3, hA3, k0, k1, k2, k3, hkid⟩ := (HT.out.below' hbw).kid hlt
      obtain ⟨ad2, hA2, hkc⟩ := (HT.out.below' hbw).key hltk
      have hal2 : ad2.block < w.heap.size := by
        obtain ⟨ad3, hA3', hkc'⟩ := HT.out.key hltk
        rw [hA2] at hA3'
        cases hA3'
        have := World.block_lt_of_cell? w _ hkc'
        rwa [add_block] at this
      have htn : ts[n] = tr ks[n] := by have := HN.out.2.2.1; subst this; simp
      obtain ⟨key, hkey⟩ : ∃ x, ks[n] = x := ⟨_, rfl⟩
      have hksz : key.size ≤ maxLen := by rw [← hkey]; exact HN.out.2.1 _ (List.getElem_mem hltk)
      obtain ⟨T, hTn⟩ : ∃ x, ts[n] = x := ⟨_, rfl⟩
      have hTin : T ∈ ts := by rw [← hTn]; exact List.getElem_mem hlt
      rw [hTn] at k0 k1 k2 k3 hkid htn
      rw [hkey] at hkc htn
      obtain ⟨f0, hf0⟩ : ∃ x, T.f0 = x := ⟨_, rfl⟩
      obtain ⟨f1, hf1⟩ : ∃ x, T.f1 = x := ⟨_, rfl⟩
      obtain ⟨n2, hn2⟩ : ∃ x, T.f2.length = x := ⟨_, rfl⟩
      obtain ⟨n3, hn3⟩ : ∃ x, T.f3.length = x := ⟨_, rfl⟩
      rw [hf0] at k0 hkid
      rw [hf1] at k1 hkid
      rw [hn2] at k2 hkid
      rw [hn3] at k3 hkid
      obtain ⟨O, hd, hOs, hOt⟩ := HV.out.doc.tight
      obtain ⟨w1, hw1⟩ : ∃ W : World, wr.alloc (.cells #[.int .i64 f0, .string f1, .slice B2 n2 d2, .slice B3 n3 d3] 42) = W := ⟨_, rfl⟩
      have hb1 : Below wr.heap.size wr w1 := by rw [← hw1]; exact (Below.refl _ _).alloc (Nat.le_refl _) _
      have hbx : w1.heap[wr.heap.size]? = some (.cells #[.int .i64 f0, .string f1, .slice B2 n2 d2, .slice B3 n3 d3] 42 (0, 0)) := by rw [← hw1]; exact heap_alloc_new _ _
      have hs1 : w1.heap.size = wr.heap.size + 1 := by rw [← hw1]; simp
      have lx := (Array.getElem?_eq_some_iff.1 HX.out).1
      have lb := HV.out.node.lt
      have hx1 : w1.heap[w.heap.size]? = _ := (hb1.block _ lx).trans HX.out
      have hbb1 : w1.heap[b]? = _ := (hb1.block b lb).trans HV.out.node.2
      have hwr := hbw.size
      have hkc1 : w1.cell? (ad2.add n) = some (.string key) := (hb1.cell (p := ad2.add n) (by rw [add_block]; omega)).trans hkc
      have lOf : ∀ i, O i → i < wr.heap.size := fun i hi => by
        rcases hOt i hi with ⟨_, _, _, e, _⟩ | ⟨_, _, e⟩ <;> exact (Array.getElem?_eq_some_iff.1 e).1
      have HC : Hid (∀ W, Below w1.heap.size w1 W → (W.cell? ⟨b, 1, none⟩ = some (pv d) ∧ W.cell? ⟨w.heap.size, 2, none⟩ = some (.slice A2 ks.length c2) ∧ W.cell? (ad2.add n) = some (.string key) ∧ W.cell? ⟨wr.heap.size, 0, none⟩ = some (.int .i64 f0) ∧ W.cell? ⟨wr.heap.size, 1, none⟩ = some (.string f1) ∧ W.cell? ⟨wr.heap.size, 2, none⟩ = some (.slice B2 n2 d2) ∧ W.cell? ⟨wr.heap.size, 3, none⟩ = some (.slice B3 n3 d3)) ∧ TR W (All W) T [.int .i64 f0, .string f1, .slice B2 n2 d2, .slice B3 n3 d3] ∧ DocAt W O d m (ks.take n) f) := Lib.hid fun W hW => by
        have hws := hW.size
        have e1 : W.heap[wr.heap.size]? = _ := (hW.block _ (by omega)).trans hbx
        have e2 : W.heap[b]? = _ := (hW.block b (by omega)).trans hbb1
        have e3 : W.heap[w.heap.size]? = _ := (hW.block _ (by omega)).trans hx1
        exact ⟨⟨cell_of_row _ b 1 _ _ _ e2, cell_of_row _ _ 2 _ _ _ e3, (hW.cell (p := ad2.add n) (by rw [add_block]; omega)).trans hkc1, cell_of_row _ _ 0 _ _ _ e1, cell_of_row _ _ 1 _ _ _ e1, cell_of_row _ _ 2 _ _ _ e1, cell_of_row _ _ 3 _ _ _ e1⟩, (hkid.below' hb1).below' hW, (hd.step (O := O) (W := fun _ => False) (Only.of_below hb1) (fun _ _ _ q => q) (fun _ _ q => q)).step (W := fun _ => False) (Only.of_below hW) (fun _ _ _ q => q) (fun _ _ q => q)⟩
      have HG : Hid (∀ W W3, Below w1.heap.size w1 W → Only O W W3 → (W3.cell? ⟨b, 1, none⟩ = some (pv d) ∧ W3.cell? ⟨w.heap.size, 2, none⟩ = some (.slice A2 ks.length c2) ∧ W3.cell? (ad2.add n) = some (.string key) ∧ W3.cell? ⟨wr.heap.size, 0, none⟩ = some (.int .i64 f0) ∧ W3.cell? ⟨wr.heap.size, 1, none⟩ = some (.string f1) ∧ W3.cell? ⟨wr.heap.size, 2, none⟩ = some (.slice B2 n2 d2) ∧ W3.cell? ⟨wr.heap.size, 3, none⟩ = some (.slice B3 n3 d3)) ∧ W3.heap[w.heap.size]? = some (.cells #[.int .i64 6, .string ByteArray.empty, .slice A2 ks.length c2, .slice A3 ts.length c3] 42 (0, 0))) := Lib.hid fun W W3 hW ho => by
        have hws := hW.size
        have nO : ∀ i, ∀ cs t fr, wr.heap[i]? = some (.cells cs t fr) → t ≠ 97 → t ≠ 9 → ¬ O i := by
          intro i cs t fr e n1 n2 q
          rcases hOt i q with ⟨_, _, _, e', ht⟩ | ⟨_, _, e'⟩
          · rw [e] at e'; simp only [Option.some.injEq, Obj.cells.injEq] at e'; rcases ht with ht | ht
            · exact n1 (e'.2.1.trans ht)
            · exact n2 (e'.2.1.trans ht)
          · rw [e] at e'; cases e'
        have e1 : W3.heap[wr.heap.size]? = _ := (ho.block _ (by omega) (fun q => by have := lOf _ q; omega)).trans ((hW.block _ (by omega)).trans hbx)
        have e2 : W3.heap[b]? = _ := (ho.block b (by omega) (nO b _ _ _ HV.out.node.2 (by decide) (by decide))).trans ((hW.block b (by omega)).trans hbb1)
        have e3 : W3.heap[w.heap.size]? = _ := (ho.block _ (by omega) (nO _ _ _ _ HX.out (by decide) (by decide))).trans ((hW.block _ (by omega)).trans hx1)
        have e4 : W3.cell? (ad2.add n) = some (.string key) := (World.cell?_of_block (a := ad2.add n) (ho.block _ (by rw [add_block]; omega) (fun q => by rw [add_block] at q; have := (hOs _ q).1; unfold New at this; omega))).trans ((hW.cell (p := ad2.add n) (by rw [add_block]; omega)).trans hkc1)
        exact ⟨⟨cell_of_row _ b 1 _ _ _ e2, cell_of_row _ _ 2 _ _ _ e3, e4, cell_of_row _ _ 0 _ _ _ e1, cell_of_row _ _ 1 _ _ _ e1, cell_of_row _ _ 2 _ _ _ e1, cell_of_row _ _ 3 _ _ _ e1⟩, e3⟩
      have HOt : Hid (∀ W, Below w1.heap.size w1 W → ∀ i, O i → (∃ cells t fr, W.heap[i]? = some (.cells cells t fr) ∧ (t = 97 ∨ t = 9)) ∨ ∃ es c, W.heap[i]? = some (.map es c)) := Lib.hid fun W hW i hi => by
        have e : W.heap[i]? = wr.heap[i]? := (hW.block i (by have := lOf i hi; omega)).trans (hb1.block i (lOf i hi))
        rw [e]
        exact hOt i hi
      have HOs : Hid (∀ i, O i → New w i ∧ col i = none ∧ i < wr.heap.size) := Lib.hid fun i hi => ⟨(hOs i hi).1, (hOs i hi).2, lOf i hi⟩
      have HB1 := Lib.hid hb1
      have HTr := Lib.hid (And.intro htn hkey)
      have hlt1 : (n : Int) < (ts.length : Int) := by omega
      have hlt2 : (n : Int) < (ks.length : Int) := by omega
      have hz0 : (0 : Int) ≤ (n : Int) := by omega
      obtain ⟨p0, -⟩ := HC.out w1 (Below.refl _ _)
      obtain ⟨p1, p2, p3, -⟩ := id p0
      have ht40 : (ks.take n).length ≤ 1099511627776 := by simp; omega
      have HT40 := Lib.hid ht40
      subst hA3
      subst hA2
      clear hb1 hbx hs1 lx lb hx1 hbb1 hkc1 hkc lOf hOt hOs hd hkid hf0 hf1 hn2 hn3 hwr hbw hal2 htn hkey hTn ht40
      go_wp2_with fail
      clear hw1
      go_region_held3 (fun w' => w'.cell? ⟨b, 1, none⟩ = some (pv d) ∧ w'.cell? ⟨w.heap.size, 2, none⟩ = some (.slice (some ad2) ks.length c2) ∧ w'.cell? (ad2.add n) = some (.string key) ∧ w'.cell? ⟨wr.heap.size, 0, none⟩ = some (.int .i64 f0) ∧ w'.cell? ⟨wr.heap.size, 1, none⟩ = some (.string f1) ∧ w'.cell? ⟨wr.heap.size, 2, none⟩ = some (.slice B2 n2 d2) ∧ w'.cell? ⟨wr.heap.size, 3, none⟩ = some (.slice B3 n3 d3))
        (first | exact p0 | exact q0 | exact r0)
        (first
          | (go_at_call 54; refine (HI.out _ _ [.int .i64 f0, .string f1, .slice B2 n2 d2, .slice B3 n3 d3] hTin (HC.out _ (Below.refl _ _).drew).2.1).mono ?_; rintro e w2 ⟨v, rfl, hv, hb2⟩; obtain ⟨pt, rfl⟩ := hv.ptr; obtain ⟨q0, -, hdd⟩ := HC.out w2 ((Below.refl _ _).drew.trans hb2); have HD := Lib.hid hdd; have HRP := Lib.hid hv.rp; have HW := Lib.hid (And.intro hv hb2); clear hv hb2 hdd)
          | (go_at_call 64; refine (set_any _ O d m (ks.take n) f key (.pointer pt) _ HD.out hksz HRP.out HT40.out).mono ?_; rintro e w3 ⟨rfl, hs, ho⟩; obtain ⟨r0, hx3⟩ := HG.out w2 w3 ((Below.refl _ _).drew.trans HW.out.2) ho; have H3 := Lib.hid (And.intro hs (And.intro ho hx3)); clear hs ho hx3))
      all_goals go_wp2
      all_goals exact obj_round ts.length (obj_step HV.out hltk HN.out.1 HB1.out.drew (by rw [HTr.out.2, ← HTr.out.1]; exact HW.out.1) HW.out.2 HOs.out (HOt.out w2 ((Below.refl _ _).drew.trans HW.out.2)) (by rw [HTr.out.2]; exact H3.out.1) H3.out.2.1) hlt H3.out.2.2
    · have hge : ¬ (n : Int) < (ts.length : Int) := by omega
      go_wp2
      go_ret
      exact obj_end HV.out (by have := HN.out.2.2.2; omega)

theorem lkL_map (ks : List ByteArray) (vs : List S25) (d : S25) (hn : ks.Nodup) (hl : ks.length = vs.length) : vs = ks.map fun k => (lkL ks vs k).getD d := by
  apply List.ext_getElem (by simp [hl])
  intro i h1 h2
  simp only [List.getElem_map]
  have hk : i < ks.length := by omega
  have := lk_at (n := ⟨0, ByteArray.empty, ks, vs⟩) hn (i := i) (x := ks[i]) (v := vs[i]) (List.getElem?_eq_getElem hk) (List.getElem?_eq_getElem h1)
  unfold lk at this
  rw [this]
  rfl

theorem node_any : ∀ (m : Nat) (T : S25) (cs : List Value) (w : World) (o : Option Addr), SizeOf.sizeOf T ≤ m → tidy 1099511627776 T → TR w (All w) T cs → Calls Tryd.prog 54 #[.agg cs.toArray, .pointer o] w (NodePost w T)
  | 0, T, cs, w, o, hm, _, _ => by cases T; simp at hm
  | m + 1, ⟨k, t, ks, vs⟩, cs, w, o, hm, ht, hT => by
    obtain ⟨A2, A3, c2, c3, rfl, l2, l3⟩ := hT.cells
    simp only [tidy] at ht
    obtain ⟨hc, b1, b2, b3, b4, htl⟩ := ht
    have IH : ∀ v W cs, v ∈ vs → TR W (All W) v cs → Calls Tryd.prog 54 #[.agg cs.toArray, .pointer o] W (NodePost W v) := fun v W cs hv hR =>
      node_any m v cs W o (by have := List.sizeOf_lt_of_mem hv; simp at hm; omega) (tidyL_get htl hv) hR
    rcases hc with ⟨rfl, rfl, rfl, rfl⟩ | ⟨hb, rfl, rfl⟩ | ⟨rfl, rfl, rfl⟩ | ⟨rfl, rfl, hnd, hlk⟩
    · exact node_null w A2 A3 c2 c3 (.pointer o)
    · obtain ⟨bs, hbs⟩ := Option.isSome_iff_exists.1 hb
      exact node_leaf w k t bs A2 A3 c2 c3 (.pointer o) hbs b1
    · exact node_arr w vs A2 A3 c2 c3 (.pointer o) hT b3 IH
    · have hmap := lkL_map ks vs ⟨0, ByteArray.empty, [], []⟩ hnd hlk
      have := node_obj w ks vs (fun k => (lkL ks vs k).getD ⟨0, ByteArray.empty, [], []⟩) A2 A3 c2 c3 o hT b3 hlk hnd (fun k hk => by have := b4 k hk; unfold maxLen; omega) hmap IH
      rw [← hmap] at this
      exact this
end Go.Proofs.YtdjogkfgegopfaaDoor
namespace Go.Proofs.YtdjogkfgegopfaaDoor
open Go.RowKit Go.Maps Go.Proofs.YtdjogkfgegopfaaDoor.MFnPaMergeAgain Go.Proofs.YtdjogkfgegopfaaDoor.Pure Go.Proofs.YtdjogkfgegopfaaDoorW.PrintWords Go.Proofs.YtdjogkfgegopfaaDoorW.PrintLast
set_option linter.unusedVariables false
set_option linter.unusedSimpArgs false

/-- What a call that hands out a tree leaves: over blocks of S and new ones. -/
def TreePost (w : World) (S : Nat → Prop) (T : S25) : Ending → World → Prop := fun e w' => ∃ cs, e = .returned (.agg cs.toArray) ∧ TR w' (fun i => S i ∨ New w i) T cs ∧ Below w.heap.size w w'

/-- At block q the tree under way (kind, text, names, kids so far: v), at p the result's place; the kids are trees over neither. -/
structure TInv (w : World) (S X : Nat → Prop) (E p q : Nat) (c0 c1 c2 : Value) (xs : List S25) (v : Value) (wr : World) : Prop where
  below : Below w.heap.size w wr
  res : ∃ cs : Array Value, cs.size = 4 ∧ wr.heap[p]? = some (.cells cs E (0, 0))
  out : wr.heap[q]? = some (.cells #[c0, c1, c2, v] E (0, 0))
  ne : p ≠ q ∧ w.heap.size ≤ p ∧ w.heap.size ≤ q
  rowne : v.ownBlock ≠ some p ∧ v.ownBlock ≠ some q
  own : ∃ inner, wr.ownsRow w.heap.size E 4 v xs.length inner ∧ Reps (fun x c => TR wr (fun i => (S i ∨ New w i) ∧ i ≠ p ∧ i ≠ q ∧ v.ownBlock ≠ some i ∧ ¬ X i) x c) 4 xs inner

theorem TInv.pq {w wr : World} {S X : Nat → Prop} {E p q : Nat} {c0 c1 c2 v : Value} {xs : List S25} (h : TInv w S X E p q c0 c1 c2 xs v wr) : p < wr.heap.size ∧ q < wr.heap.size := by
  obtain ⟨cs, _, hp⟩ := h.res
  exact ⟨(Array.getElem?_eq_some_iff.1 hp).1, (Array.getElem?_eq_some_iff.1 h.out).1⟩

/-- A step that writes none of the tree's blocks. -/
theorem TInv.step {w wr w1 : World} {S X O : Nat → Prop} {E p q : Nat} {c0 c1 c2 v : Value} {xs : List S25} (h : TInv w S X E p q c0 c1 c2 xs v wr) (hS : ∀ i, S i → i < w.heap.size) (ho : Only O wr w1) (hO : ∀ i, O i → w.heap.size ≤ i ∧ i ≠ p ∧ i ≠ q ∧ v.ownBlock ≠ some i)
    (hk : ∀ x c, TR wr (fun i => (S i ∨ New w i) ∧ i ≠ p ∧ i ≠ q ∧ v.ownBlock ≠ some i ∧ ¬ X i) x c → TR w1 (fun i => (S i ∨ New w i) ∧ i ≠ p ∧ i ≠ q ∧ v.ownBlock ≠ some i ∧ ¬ X i) x c) : TInv w S X E p q c0 c1 c2 xs v w1 := by
  have hb := h.below
  obtain ⟨hp, hq⟩ := h.pq
  obtain ⟨cs, hcs, hres⟩ := h.res
  obtain ⟨inner, hown, hrep⟩ := h.own
  exact ⟨hb.trans (ho.below (fun i _ hi => (hO i hi).1) hb.size), ⟨cs, hcs, (ho.block p hp (fun x => (hO p x).2.1 rfl)).trans hres⟩, (ho.block q hq (fun x => (hO q x).2.2.1 rfl)).trans h.out, h.ne, h.rowne, ⟨inner, own_move hown (fun k hk => ho.block k (own_lt hown k hk) (fun x => (hO k x).2.2.2 hk)), hrep.imp_ (fun x c hx => hk x c hx)⟩⟩

theorem TInv.snoc {w wr w1 w2 w3 w4 : World} {S X : Nat → Prop} {E p q g cap : Nat} {c0 c1 c2 v : Value} {xs : List S25} {x : S25} {inner cs : List Value} (h : TInv w S X E p q c0 c1 c2 xs v wr) (hS : ∀ i, S i → i < w.heap.size) (hX : ∀ i, X i → w.heap.size ≤ i ∧ i < wr.heap.size) (hin : wr.ownsRow w.heap.size E 4 v xs.length inner) (hr : Reps (fun x c => TR wr (fun i => (S i ∨ New w i) ∧ i ≠ p ∧ i ≠ q ∧ v.ownBlock ≠ some i ∧ ¬ X i) x c) 4 xs inner)
    (hb1 : Below wr.heap.size wr w1) (hx : TR w2 (fun i => S i ∨ New w1 i) x cs) (hb2 : Below w1.heap.size w1 w2) (hb3 : Below w2.heap.size w2 w3) (ho : w4.ownsRow w.heap.size E 4 (.slice (some ⟨g, 0, none⟩) (xs.length + 1) cap) (xs.length + 1) (inner ++ cs)) (hg : w3.grownBy w4 v.ownBlock) (hat : v.ownBlock = some g ∨ w2.heap.size ≤ g) :
    TInv w S X E p q c0 c1 c2 (xs ++ [x]) (.slice (some ⟨g, 0, none⟩) (xs.length + 1) cap) (w4.setCell ⟨q, 3, none⟩ (.slice (some ⟨g, 0, none⟩) (xs.length + 1) cap)) := by
  have hb := h.below
  have s0 := hb.size
  have s1 := hb1.size
  have s2 := hb2.size
  have s3 := hb3.size
  have s4 := hg.size
  obtain ⟨hp, hq⟩ := h.pq
  obtain ⟨res, hres1, hres⟩ := h.res
  obtain ⟨ne1, ne2, ne3⟩ := h.ne
  obtain ⟨r1, r2⟩ := h.rowne
  have hgp : g ≠ p ∧ g ≠ q := by
    rcases hat with e | e
    · exact ⟨fun q => r1 (by rw [e, q]), fun q => r2 (by rw [e, q])⟩
    · exact ⟨by omega, by omega⟩
  have hO2 : Only (fun i => v.ownBlock = some i ∨ i = q) w2 (w4.setCell ⟨q, 3, none⟩ (.slice (some ⟨g, 0, none⟩) (xs.length + 1) cap)) :=
    ((Only.of_below hb3 : Only (fun i => v.ownBlock = some i ∨ i = q) w2 w3).trans (Only.of_grown hg (fun i hi => .inl hi)) (fun _ _ q => q) (fun _ _ q => q)).trans (Only.set _ q 3 _ (.inr rfl)) (fun _ _ q => q) (fun _ _ q => q)
  have hO : Only (fun i => v.ownBlock = some i ∨ i = q) wr (w4.setCell ⟨q, 3, none⟩ (.slice (some ⟨g, 0, none⟩) (xs.length + 1) cap)) :=
    ((Only.of_below hb1 : Only (fun i => v.ownBlock = some i ∨ i = q) wr w1).trans (Only.of_below hb2 : Only (fun i => v.ownBlock = some i ∨ i = q) w1 w2) (fun _ _ q => q) (fun _ _ q => q)).trans hO2 (fun _ _ q => q) (fun _ _ q => q)
  have hOb : ∀ i, v.ownBlock = some i ∨ i = q → w.heap.size ≤ i := by
    rintro i (e | rfl)
    · exact own_base hin i e
    · exact ne3
  have q4 : w4.heap[q]? = some (.cells #[c0, c1, c2, v] E (0, 0)) :=
    (hg.block q (by omega) (fun e => r2 e.symm)).trans ((hb3.block q (by omega)).trans ((hb2.block q (by omega)).trans ((hb1.block q hq).trans h.out)))
  have hl : (xs ++ [x]).length = xs.length + 1 := by simp
  refine ⟨hb.trans (hO.below (fun i _ hi => hOb i hi) s0), ⟨res, hres1, (hO.block p hp (fun e => e.elim (fun e => r1 e) (fun e => ne1 e))).trans hres⟩, ?_, ⟨ne1, ne2, ne3⟩, ⟨fun e => by simp [Value.ownBlock] at e; exact hgp.1 e, fun e => by simp [Value.ownBlock] at e; exact hgp.2 e⟩, inner ++ cs, ?_, ?_⟩
  · have := heap_setCell_same _ q 3 _ _ (.slice (some ⟨g, 0, none⟩) (xs.length + 1) cap) q4
    simpa using this
  · rw [hl]
    exact own_setCell ho (p := ⟨q, 3, none⟩) (by simp [Value.ownBlock]; exact fun e => hgp.2 e.symm) _
  · refine (hr.imp_ (fun y c hy => ?_)).snoc ?_ ?_
    · refine hy.step hO (fun i hi hs e => ?_) (fun i hi hs => ⟨hs.1, hs.2.1, hs.2.2.1, fun e => ?_, hs.2.2.2.2⟩)
      · rcases e with e | e
        · exact hs.2.2.2.1 e
        · exact hs.2.2.1 e
      · simp only [Value.ownBlock, Option.some.injEq] at e
        subst e
        rcases hat with e | e
        · exact hs.2.2.2.1 e
        · omega
    · refine hx.step hO2 (fun i hi hs e => ?_) (fun i hi hs => ⟨?_, ?_, ?_, fun e => ?_, fun e => ?_⟩)
      · rcases e with e | rfl
        · have h1 := own_base hin i e
          have h2 := own_lt hin i e
          rcases hs with hs | hs
          · have := hS i hs; omega
          · unfold New at hs; omega
        · rcases hs with hs | hs
          · have := hS _ hs; omega
          · unfold New at hs; omega
      · rcases hs with hs | hs
        · exact .inl hs
        · exact .inr (by unfold New at *; omega)
      · rintro rfl
        rcases hs with hs | hs
        · have := hS _ hs; omega
        · unfold New at hs; omega
      · rintro rfl
        rcases hs with hs | hs
        · have := hS _ hs; omega
        · unfold New at hs; omega
      · simp only [Value.ownBlock, Option.some.injEq] at e
        subst e
        rcases hat with e | e
        · have h1 := own_base hin _ e
          have h2 := own_lt hin _ e
          rcases hs with hs | hs
          · have := hS _ hs; omega
          · unfold New at hs; omega
        · omega
      · have := hX i e
        rcases hs with hs | hs
        · have := hS _ hs; omega
        · unfold New at hs; omega
    · obtain ⟨_, _, _, _, e, _, _⟩ := hx.cells
      rw [e]
      rfl

/-- The tree is whole. -/
theorem TInv.tree {w wr : World} {S X : Nat → Prop} {E p q c2 : Nat} {A2 : Option Addr} {v : Value} {k : Int} {t : ByteArray} {ks : List ByteArray} {xs : List S25} (h : TInv w S X E p q (.int .i64 k) (.string t) (.slice A2 ks.length c2) xs v wr)
    (hks : ks.length ≤ c2 ∧ ∀ i (hi : i < ks.length), ∃ ad, A2 = some ad ∧ (S ad.block ∨ New w ad.block) ∧ ad.block ≠ p ∧ wr.cell? (ad.add i) = some (.string ks[i])) :
    TR wr (fun i => (S i ∨ New w i) ∧ i ≠ p) ⟨k, t, ks, xs⟩ [.int .i64 k, .string t, .slice A2 ks.length c2, v] := by
  obtain ⟨inner, hown, hrep⟩ := h.own
  obtain ⟨A3, c3, hv⟩ := own_slice hown
  have hlen := hrep.1
  have hcells : ∀ i, i < xs.length → ∃ g cap, v = .slice (some ⟨g, 0, none⟩) xs.length cap ∧ ∀ j u, ((inner.drop (i * 4)).take 4)[j]? = some u → wr.cell? ⟨g, i * 4 + j, none⟩ = some u := by
    intro i hi
    obtain ⟨g, cap, rfl, _, _⟩ := hown.form (by omega)
    refine ⟨g, cap, rfl, fun j u hu => ?_⟩
    rw [List.getElem?_take] at hu
    split at hu
    · rw [List.getElem?_drop] at hu
      rw [hown.cellAt (i * 4 + j) (by omega)]
      exact hu
    · cases hu
  have hc3 : xs.length ≤ c3 := by
    rcases hown.2 with ⟨e, z⟩ | ⟨g, cap, cur, e, _, _, hle, _⟩
    · rw [z]; omega
    · rw [hv] at e; simp only [Value.slice.injEq] at e; omega
  subst hv
  refine .mk k t ks xs A2 A3 c2 c3 (fun i => (inner.drop (i * 4)).take 4) hks.1 hc3 (fun i hi => ?_) (fun i hi => ?_) (fun i x hx => ?_)
  · obtain ⟨ad, e1, e2, e3, e4⟩ := hks.2 i hi
    exact ⟨ad, e1, ⟨e2, e3⟩, e4⟩
  · obtain ⟨g, cap, e, hc⟩ := hcells i hi
    simp only [Value.slice.injEq] at e
    obtain ⟨rfl, _, rfl⟩ := e
    refine ⟨⟨g, 0, none⟩, rfl, ⟨.inr (own_base hown g rfl), fun q => h.rowne.1 (by rw [← q]; rfl)⟩, by simp; omega, fun j u hu => ?_⟩
    rw [Addr.add_lit, Nat.zero_add]
    exact hc j u hu
  · exact (hrep.2 i x hx).mono (fun i hi => ⟨hi.1, hi.2.1⟩)

/-- A name more. -/
theorem TInv.key {w wr w3 w4 : World} {S : Nat → Prop} {E p q n : Nat} {c0 c1 kv kv1 v : Value} {xs : List S25} {ys zs : List Value} (h : TInv w S (fun i => kv.ownBlock = some i) E p q c0 c1 kv xs v wr) (hE : E ≠ 9) (hk : wr.ownsRow w.heap.size 9 1 kv n ys)
    (hb3 : Below wr.heap.size wr w3) (ho : w4.ownsRow w.heap.size 9 1 kv1 (n + 1) zs) (hg : w3.grownBy w4 kv.ownBlock) (hat : kv1.ownBlock = kv.ownBlock ∨ ∃ b, kv1.ownBlock = some b ∧ w3.heap.size ≤ b) :
    TInv w S (fun i => kv1.ownBlock = some i) E p q c0 c1 kv1 xs v (w4.setCell ⟨q, 2, none⟩ kv1) ∧ (w4.setCell ⟨q, 2, none⟩ kv1).ownsRow w.heap.size 9 1 kv1 (n + 1) zs := by
  have hb := h.below
  have s0 := hb.size
  have s3 := hb3.size
  have s4 := hg.size
  obtain ⟨hp, hq⟩ := h.pq
  obtain ⟨res, hres1, hres⟩ := h.res
  obtain ⟨ne1, ne2, ne3⟩ := h.ne
  obtain ⟨r1, r2⟩ := h.rowne
  obtain ⟨inner, hin, hrep⟩ := h.own
  have kp : kv.ownBlock ≠ some p := fun e => own_ne hk hres (Ne.symm hE) e.symm
  have kq : kv.ownBlock ≠ some q := fun e => own_ne hk h.out (Ne.symm hE) e.symm
  have hO : Only (fun i => kv.ownBlock = some i ∨ i = q) wr (w4.setCell ⟨q, 2, none⟩ kv1) :=
    ((Only.of_below hb3 : Only (fun i => kv.ownBlock = some i ∨ i = q) wr w3).trans (Only.of_grown hg (fun i hi => .inl hi)) (fun _ _ q => q) (fun _ _ q => q)).trans (Only.set _ q 2 _ (.inr rfl)) (fun _ _ q => q) (fun _ _ q => q)
  have hOb : ∀ i, kv.ownBlock = some i ∨ i = q → w.heap.size ≤ i := by
    rintro i (e | rfl)
    · exact own_base hk i e
    · exact ne3
  have q4 : w4.heap[q]? = some (.cells #[c0, c1, kv, v] E (0, 0)) := (hg.block q (by omega) (fun e => kq e.symm)).trans ((hb3.block q hq).trans h.out)
  have rk : ∀ i, v.ownBlock = some i → kv.ownBlock ≠ some i := by
    intro i e e2
    obtain ⟨c1, h1⟩ := own_typed hin i e
    exact own_ne hk h1 (Ne.symm hE) e2.symm
  refine ⟨⟨hb.trans (hO.below (fun i _ hi => hOb i hi) s0), ⟨res, hres1, (hO.block p hp (fun e => e.elim (fun e => kp e) (fun e => ne1 e))).trans hres⟩, ?_, ⟨ne1, ne2, ne3⟩, ⟨r1, r2⟩, inner, ?_, hrep.imp_ (fun y c hy => ?_)⟩, ?_⟩
  · have := heap_setCell_same _ q 2 _ _ kv1 q4
    simpa using this
  · exact own_move hin (fun i hi => hO.block i (own_lt hin i hi) (fun e => e.elim (fun e => rk i hi e) (fun e => r2 (by rw [← e]; exact hi))))
  · refine hy.step hO (fun i hi hs e => ?_) (fun i hi hs => ⟨hs.1, hs.2.1, hs.2.2.1, hs.2.2.2.1, fun e => ?_⟩)
    · rcases e with e | e
      · exact hs.2.2.2.2 e
      · exact hs.2.2.1 e
    · rcases hat with q | ⟨b, hb1, hb2⟩
      · exact hs.2.2.2.2 (q ▸ e)
      · rw [hb1] at e; cases e; omega
  · exact own_setCell ho (p := ⟨q, 2, none⟩) (fun e => own_ne ho q4 (Ne.symm hE) e) kv1
end Go.Proofs.YtdjogkfgegopfaaDoor
namespace Go.Proofs.YtdjogkfgegopfaaDoor
open Go.RowKit Go.Maps Go.Proofs.YtdjogkfgegopfaaDoor.MFnPaMergeAgain Go.Proofs.YtdjogkfgegopfaaDoor.Pure Go.Proofs.YtdjogkfgegopfaaDoorW.PrintWords Go.Proofs.YtdjogkfgegopfaaDoorW.PrintLast
set_option linter.unusedVariables false
set_option linter.unusedSimpArgs false

/-- A result that is a record in a cell of its own. -/
theorem cell_results {P : Program} {fn : Func} {p : Tmp} {ty : TypeId} (h : fn.results = #[.cell p ty]) (tmps : Array Value) (w : World) (g : Nat) (t : TypeId) (cs : Array Value) (fr : Nat × Nat) (d : TypeDesc)
    (hp : tmps.getD p undef = .pointer (some ⟨g, 0, none⟩)) (hg : w.heap[g]? = some (.cells cs t fr))
    (hu : P.underlying ty = some d) (hd : (match d with | .struct _ | .array _ _ => true | _ => false) = true) (hi : (P.info? ty).map (·.size) = some cs.size) :
    (results fn tmps).run P w = .ok (.agg cs) w := by
  have hp' : tmps[p]?.getD undef = .pointer (some ⟨g, 0, none⟩) := by simpa using hp
  simp [results, h, hp', asAddr, run_loadVar_row w g t ty cs fr d hg hu hd hi]

theorem tree_round {w W : World} {S X : Nat → Prop} {E p q n : Nat} {c0 c1 c2 v : Value} {vs : List S25} {T : S25} (m : Nat) (h : TInv w S X E p q c0 c1 c2 (vs.take n ++ [T]) v W) (he : vs.take (n + 1) = vs.take n ++ [T]) (hn : n < m) :
    (∃ (n_1 : Nat) (v : Value), n_1 ≤ m ∧ Value.int IntKind.i64 ((n : Int) + 1) = Value.int IntKind.i64 (n_1 : Int) ∧ Hid (TInv w S X E p q c0 c1 c2 (vs.take n_1) v W)) ∧ m - (intOf (Value.int IntKind.i64 ((n : Int) + 1))).toNat < m - (intOf (Value.int IntKind.i64 (n : Int))).toNat := by
  rw [← he] at h
  exact ⟨⟨n + 1, v, by omega, by go_num, Lib.hid h⟩, by simp [intOf]; omega⟩
theorem only4 (w : World) (p : Nat) (a b c d : Value) : Only (fun i => i = p) w ((((w.setCell ⟨p, 0, none⟩ a).setCell ⟨p, 1, none⟩ b).setCell ⟨p, 2, none⟩ c).setCell ⟨p, 3, none⟩ d) := by
  have h : ∀ (w : World) (j : Nat) (u : Value), Only (fun i => i = p) w (w.setCell ⟨p, j, none⟩ u) := fun w j u => Only.set w p j u rfl
  exact (((h w 0 a).trans (h _ 1 b) (fun _ _ q => q) (fun _ _ q => q)).trans (h _ 2 c) (fun _ _ q => q) (fun _ _ q => q)).trans (h _ 3 d) (fun _ _ q => q) (fun _ _ q => q)
theorem tree_end {w wr : World} {S X : Nat → Prop} {E p q c2 : Nat} {A2 : Option Addr} {v w3 : Value} {k : Int} {t : ByteArray} {ks : List ByteArray} {xs vs : List S25} {a b c d : Value} (hl : ks.length ≤ c2) (hT : TR w S ⟨k, t, ks, vs⟩ [.int .i64 k, .string t, .slice A2 ks.length c2, w3]) (h : TInv w S X E p q (.int .i64 k) (.string t) (.slice A2 ks.length c2) xs v wr) (hS : ∀ i, S i → i < w.heap.size) :
    TreePost w S ⟨k, t, ks, xs⟩ (.returned (.agg #[.int .i64 k, .string t, .slice A2 ks.length c2, v])) ((((wr.setCell ⟨p, 0, none⟩ a).setCell ⟨p, 1, none⟩ b).setCell ⟨p, 2, none⟩ c).setCell ⟨p, 3, none⟩ d) := by
  have hb := h.below
  have ho : Only (fun i => i = p) wr ((((wr.setCell ⟨p, 0, none⟩ a).setCell ⟨p, 1, none⟩ b).setCell ⟨p, 2, none⟩ c).setCell ⟨p, 3, none⟩ d) :=
    only4 wr p a b c d
  have hks : ∀ i (hi : i < ks.length), ∃ ad, A2 = some ad ∧ (S ad.block ∨ New w ad.block) ∧ ad.block ≠ p ∧ wr.cell? (ad.add i) = some (.string ks[i]) := by
    intro i hi
    cases hT with
    | mk _ _ _ _ _ A3 _ c3 kc l2 l3 h2 h3 h4 =>
      obtain ⟨ad, e, hs, hc⟩ := h2 i hi
      have := hS _ hs
      have h1 := h.ne
      exact ⟨ad, e, .inl hs, by omega, (hb.cell (p := ad.add i) (by rw [add_block]; exact this)).trans hc⟩
  have := h.tree ⟨hl, hks⟩
  exact ⟨_, rfl, this.step ho (fun i hi hs q => hs.2 q) (fun i hi hs => hs.1), hb.trans (ho.below (fun i _ hi => by subst hi; exact h.ne.2.1) hb.size)⟩

theorem infopaIn : (Tryd.prog.info? 42).map (fun i => (i.zero, i.size, i.bytes)) = some (some (.agg #[.int .i64 0, .string ⟨#[]⟩, .slice none 0 0, .slice none 0 0]), 4, 72) := by kernel_rfl

set_option maxRecDepth 1000000 in
set_option maxHeartbeats 4000000 in
theorem paIn_any : ∀ (m : Nat) (T : S25) (cs : List Value) (w : World) (S : Nat → Prop), SizeOf.sizeOf T ≤ m → lim 1099511627776 T → TR w S T cs → (∀ i, S i → i < w.heap.size) → Calls Tryd.prog 21 #[.agg cs.toArray] w (TreePost w S T)
  | 0, T, cs, w, S, hm, _, _, _ => by cases T; simp at hm
  | m + 1, ⟨k, t, ks, vs⟩, cs, w, S, hm, hl, hT, hS => by
    obtain ⟨A2, A3, c2, c3, rfl, l2, l3⟩ := hT.cells
    simp only [lim] at hl
    have IH : ∀ v W cs, v ∈ vs → TR W S v cs → w.heap.size ≤ W.heap.size → Calls Tryd.prog 21 #[.agg cs.toArray] W (TreePost W S v) := fun v W cs hv hR hW =>
      paIn_any m v cs W S (by have := List.sizeOf_lt_of_mem hv; simp at hm; omega) (limL_get hl.2.2 hv) hR (fun i hi => by have := hS i hi; omega)
    have hlv : vs.length ≤ 1099511627776 := hl.2.1
    have HT := Lib.hid hT
    have HI := Lib.hid IH
    have HS := Lib.hid hS
    clear hT IH hl hS hm
    simp only [] at l2 l3
    show Calls Tryd.prog 21 #[.agg #[.int .i64 k, .string t, .slice A2 ks.length c2, .slice A3 vs.length c3]] w _
    go_enter Tryd.func21, Tryd.ntmps21
    go_wp2
    obtain ⟨W0, hW0⟩ : ∃ W : World, ((w.alloc (.cells #[.int .i64 k, .string t, .slice A2 ks.length c2, .slice A3 vs.length c3] 25)).alloc (.cells #[.int .i64 0, .string ⟨#[]⟩, .slice none 0 0, .slice none 0 0] 42)).alloc (.cells #[.int .i64 k, .string t, .slice A2 ks.length c2, .slice none 0 0] 42) = W := ⟨_, rfl⟩
    have HV0 : TInv w S (fun _ => False) 42 (w.heap.size + 1) (w.heap.size + 1 + 1) (.int .i64 k) (.string t) (.slice A2 ks.length c2) (vs.take 0) (.slice none 0 0) W0 := by
      obtain ⟨_, a1, a2, a3⟩ := heap_two (w := w) (.cells #[.int .i64 k, .string t, .slice A2 ks.length c2, .slice A3 vs.length c3] 25) (.cells #[.int .i64 0, .string ⟨#[]⟩, .slice none 0 0, .slice none 0 0] 42) (.cells #[.int .i64 k, .string t, .slice A2 ks.length c2, .slice none 0 0] 42)
      rw [hW0] at a2 a3
      refine ⟨by rw [← hW0]; exact below_three (Below.refl _ _) _ _ _, ⟨_, rfl, a2⟩, a3, ⟨by omega, by omega, by omega⟩, ⟨by simp [Value.ownBlock], by simp [Value.ownBlock]⟩, [], own_nil _ _ _ _, Reps.none _ _⟩
    rw [hW0]
    clear hW0
    go_loopw [16] (fun i wr => ∃ (n : Nat) (v : Value), n ≤ vs.length ∧ i = .int .i64 n ∧ Hid (TInv w S (fun _ => False) 42 (w.heap.size + 1) (w.heap.size + 1 + 1) (.int .i64 k) (.string t) (.slice A2 ks.length c2) (vs.take n) v wr)) (fun i _ => vs.length - (intOf i).toNat)
    case atStart => exact ⟨0, _, Nat.zero_le _, rfl, Lib.hid HV0⟩
    case round =>
      obtain ⟨n, v, hn, rfl, HV⟩ := hrel
      by_cases hlt : n < vs.length
      · have hbw := HV.out.below
        have hLN : (vs.take n).length = n := by simp; omega
        have hTw : TR _ S _ _ := HT.out.step (O := fun _ => False) (Only.of_below hbw) (fun _ _ _ q => q) (fun _ _ q => q)
        obtain ⟨ad, B2, d2, B3, d3, hA3, k0, k1, k2, k3, hkid⟩ := hTw.kid hlt
        obtain ⟨T, hTn⟩ : ∃ x, vs[n] = x := ⟨_, rfl⟩
        have hTin : T ∈ vs := by rw [← hTn]; exact List.getElem_mem hlt
        have hTE : vs.take (n + 1) = vs.take n ++ [T] := by rw [List.take_succ_eq_append_getElem hlt, hTn]
        rw [hTn] at k0 k1 k2 k3 hkid
        obtain ⟨f0, hf0⟩ : ∃ x, T.f0 = x := ⟨_, rfl⟩
        obtain ⟨f1, hf1⟩ : ∃ x, T.f1 = x := ⟨_, rfl⟩
        obtain ⟨n2, hn2⟩ : ∃ x, T.f2.length = x := ⟨_, rfl⟩
        obtain ⟨n3, hn3⟩ : ∃ x, T.f3.length = x := ⟨_, rfl⟩
        rw [hf0] at k0 hkid
        rw [hf1] at k1 hkid
        rw [hn2] at k2 hkid
        rw [hn3] at k3 hkid
        obtain ⟨inner, hin, hrep⟩ := HV.out.own
        obtain ⟨An, cn, hv⟩ := own_slice hin
        rw [hLN] at hv hin
        subst hv
        obtain ⟨w1, hw1⟩ : ∃ W : World, wr.alloc (.cells #[.int .i64 f0, .string f1, .slice B2 n2 d2, .slice B3 n3 d3] 25) = W := ⟨_, rfl⟩
        have hb1 : Below wr.heap.size wr w1 := by rw [← hw1]; exact (Below.refl _ _).alloc (Nat.le_refl _) _
        have hbx : w1.heap[wr.heap.size]? = some (.cells #[.int .i64 f0, .string f1, .slice B2 n2 d2, .slice B3 n3 d3] 25 (0, 0)) := by rw [← hw1]; exact heap_alloc_new _ _
        have hs1 : w1.heap.size = wr.heap.size + 1 := by rw [← hw1]; simp
        obtain ⟨lp, lq⟩ := HV.out.pq
        have hq1 : w1.heap[w.heap.size + 1 + 1]? = _ := (hb1.block _ lq).trans HV.out.out
        have hwr := hbw.size
        have ho1 : w1.ownsRow w.heap.size 42 4 (.slice An n cn) n inner := pw_own_below hin hb1
        have hrn : (Value.slice An n cn).ownBlock ≠ some (w.heap.size + 1 + 1) := HV.out.rowne.2
        have hrb : (Value.slice An n cn).ownBlock ≠ some wr.heap.size := fun e => by have := own_lt hin _ e; omega
        have HC : Hid (∀ W, Below w1.heap.size w1 W → (W.cell? ⟨wr.heap.size, 0, none⟩ = some (.int .i64 f0) ∧ W.cell? ⟨wr.heap.size, 1, none⟩ = some (.string f1) ∧ W.cell? ⟨wr.heap.size, 2, none⟩ = some (.slice B2 n2 d2) ∧ W.cell? ⟨wr.heap.size, 3, none⟩ = some (.slice B3 n3 d3)) ∧ W.cell? ⟨w.heap.size + 1 + 1, 3, none⟩ = some (.slice An n cn) ∧ W.ownsRow w.heap.size 42 4 (.slice An n cn) n inner ∧ TR W S T [.int .i64 f0, .string f1, .slice B2 n2 d2, .slice B3 n3 d3]) := Lib.hid fun W hW => by
          have e1 : W.heap[wr.heap.size]? = _ := (hW.block _ (by omega)).trans hbx
          have e3 : W.heap[w.heap.size + 1 + 1]? = _ := (hW.block _ (by omega)).trans hq1
          exact ⟨⟨cell_of_row _ _ 0 _ _ _ e1, cell_of_row _ _ 1 _ _ _ e1, cell_of_row _ _ 2 _ _ _ e1, cell_of_row _ _ 3 _ _ _ e1⟩, cell_of_row _ _ 3 _ _ _ e3, pw_own_below ho1 hW, (hkid.step (S' := S) (O := fun _ => False) (Only.of_below hb1) (fun _ _ _ q => q) (fun _ _ q => q)).step (O := fun _ => False) (Only.of_below hW) (fun _ _ _ q => q) (fun _ _ q => q)⟩
        have HG : Hid (∀ W W4 : World, Below w1.heap.size w1 W → W.grownBy W4 (Value.slice An n cn).ownBlock → W4.cell? ⟨w.heap.size + 1 + 1, 3, none⟩ = some (.slice An n cn) ∧ W4.frozen? ⟨w.heap.size + 1 + 1, 3, none⟩ = false ∧ ∀ u, ((W4.setCell ⟨w.heap.size + 1 + 1, 3, none⟩ u).cell? ⟨wr.heap.size, 0, none⟩ = some (.int .i64 f0) ∧ (W4.setCell ⟨w.heap.size + 1 + 1, 3, none⟩ u).cell? ⟨wr.heap.size, 1, none⟩ = some (.string f1) ∧ (W4.setCell ⟨w.heap.size + 1 + 1, 3, none⟩ u).cell? ⟨wr.heap.size, 2, none⟩ = some (.slice B2 n2 d2) ∧ (W4.setCell ⟨w.heap.size + 1 + 1, 3, none⟩ u).cell? ⟨wr.heap.size, 3, none⟩ = some (.slice B3 n3 d3)) ∧ (W4.cell? ⟨wr.heap.size, 0, none⟩ = some (.int .i64 f0) ∧ W4.cell? ⟨wr.heap.size, 1, none⟩ = some (.string f1) ∧ W4.cell? ⟨wr.heap.size, 2, none⟩ = some (.slice B2 n2 d2) ∧ W4.cell? ⟨wr.heap.size, 3, none⟩ = some (.slice B3 n3 d3))) := Lib.hid fun W W4 hW hg => by
          have hws := hW.size
          have e1 : W4.heap[wr.heap.size]? = _ := (hg.block _ (by omega) (fun q => hrb q.symm)).trans ((hW.block _ (by omega)).trans hbx)
          have e3 : W4.heap[w.heap.size + 1 + 1]? = _ := (hg.block _ (by omega) (fun q => hrn q.symm)).trans ((hW.block _ (by omega)).trans hq1)
          have e4 : ∀ u, (W4.setCell ⟨w.heap.size + 1 + 1, 3, none⟩ u).heap[wr.heap.size]? = _ := fun u => (Below.heap_setCell _ _ _ _ (by simp; omega)).trans e1
          exact ⟨cell_of_row _ _ 3 _ _ _ e3, Go.frozen_of_row _ _ 3 _ _ e3, fun u => ⟨⟨cell_of_row _ _ 0 _ _ _ (e4 u), cell_of_row _ _ 1 _ _ _ (e4 u), cell_of_row _ _ 2 _ _ _ (e4 u), cell_of_row _ _ 3 _ _ _ (e4 u)⟩, ⟨cell_of_row _ _ 0 _ _ _ e1, cell_of_row _ _ 1 _ _ _ e1, cell_of_row _ _ 2 _ _ _ e1, cell_of_row _ _ 3 _ _ _ e1⟩⟩⟩
        have HB1 := Lib.hid hb1
        have HWS : Hid (w.heap.size ≤ w1.drew.heap.size) := Lib.hid (by show w.heap.size ≤ w1.heap.size; omega)
        have HLN := Lib.hid hLN
        have HTE := Lib.hid hTE
        have HIN := Lib.hid (And.intro hin hrep)
        have hltI : (n : Int) < (vs.length : Int) := by omega
        obtain ⟨i0, hi0, hz0, hz1, hz2⟩ := info_parts infopaIn
        obtain ⟨p0, p1, -⟩ := HC.out w1 (Below.refl _ _)
        subst hA3
        clear hb1 hbx hs1 lp lq hq1 hwr ho1 hrn hrb hkid hTw hbw hLN hTE hin hrep hf0 hf1 hn2 hn3 hTn
        go_wp2_with fail
        clear hw1
        refine wp_region_held_drew (S := fun w' => w'.cell? ⟨wr.heap.size, 0, none⟩ = some (.int .i64 f0) ∧ w'.cell? ⟨wr.heap.size, 1, none⟩ = some (.string f1) ∧ w'.cell? ⟨wr.heap.size, 2, none⟩ = some (.slice B2 n2 d2) ∧ w'.cell? ⟨wr.heap.size, 3, none⟩ = some (.slice B3 n3 d3)) (by kernel_rfl) p0 (fun hHeld => ?_)
        refine wpAnyH_take (i := 0) (v := ?_) rfl (by kernel_rfl) (by kernel_rfl) (by kernel_rfl) (fun _ _ _ h => h) (Or.inl ⟨by rfl, ?_⟩) (by assumption) ?_
        rotate_left
        · intro W hSw; (try dsimp only at hSw); go_simp; (try with_reducible rfl)
        try simp only [Act.put, List.setIfInBounds_toArray, List.set_cons_zero, List.set_cons_succ]
        refine wpAnyH_take (i := 2) (v := ?_) rfl (by kernel_rfl) (by kernel_rfl) (by kernel_rfl) (fun _ _ _ h => h) (Or.inl ⟨by rfl, ?_⟩) (by assumption) ?_
        rotate_left
        · intro W hSw; (try dsimp only at hSw); go_simp; (try with_reducible rfl)
        try simp only [Act.put, List.setIfInBounds_toArray, List.set_cons_zero, List.set_cons_succ]
        refine wpAnyH_ready (rs := [1, 3]) (by kernel_rfl) (by simp) ?_
        refine AllReadyH.cons (o := _) rfl (fun K hK => ?_) ?_
        ·
          go_simp
          refine hK.out _ _ (by first | exact p0 | exact q0 | exact q1 | exact r1 | exact (r0 _)) (fun hHeld => ?_)
          clear hK K
          try simp only [Act.put, List.setIfInBounds_toArray, List.set_cons_zero, List.set_cons_succ]
          refine wpAnyH_ready (rs := [3]) (by kernel_rfl) (by simp) ?_
          refine AllReadyH.cons (o := _) rfl (fun K hK => ?_) ?_
          ·
            go_simp
            go_at_call 21
            refine (HI.out _ _ [.int .i64 f0, .string f1, .slice B2 n2 d2, .slice B3 n3 d3] hTin (HC.out _ (Below.refl _ _).drew).2.2.2 HWS.out).mono ?_
            rintro e w2 ⟨cs, rfl, hx, hb2⟩
            obtain ⟨E2, E3, e2, e3, rfl, -, -⟩ := hx.cells
            obtain ⟨q0, q2, -⟩ := HC.out w2 ((Below.refl _ _).drew.trans hb2)
            obtain ⟨q1, q3, how, -⟩ := HC.out (w2.alloc (.cells #[.int .i64 T.f0, .string T.f1, .slice E2 T.f2.length e2, .slice E3 T.f3.length e3] 42)) ((Below.refl _ _).drew.trans (hb2.alloc hb2.size _))
            have HOW := Lib.hid how
            have HW := Lib.hid (And.intro hx hb2)
            have HWZ : Hid (w.heap.size ≤ (w2.alloc (.cells #[.int .i64 T.f0, .string T.f1, .slice E2 T.f2.length e2, .slice E3 T.f3.length e3] 42)).heap.size) := Lib.hid (by have h1 := HWS.out; have h2 := hb2.size; have h3 : w1.drew.heap.size = w1.heap.size := rfl; simp; omega)
            clear hx hb2 how
            refine hK.out _ _ (by first | exact p0 | exact q0 | exact q1 | exact r1 | exact (r0 _)) (fun hHeld => ?_)
            clear hK K
            try simp only [Act.put, List.setIfInBounds_toArray, List.set_cons_zero, List.set_cons_succ]
            refine wpAnyH_ready (rs := [4]) (by kernel_rfl) (by simp) ?_
            refine AllReadyH.cons (o := _) rfl (fun K hK => ?_) ?_
            ·
              go_simp
              refine hK.out _ _ (by first | exact p0 | exact q0 | exact q1 | exact r1 | exact (r0 _)) (fun hHeld => ?_)
              clear hK K
              try simp only [Act.put, List.setIfInBounds_toArray, List.set_cons_zero, List.set_cons_succ]
              refine wpAnyH_ready (rs := [5]) (by kernel_rfl) (by simp) ?_
              refine AllReadyH.cons (o := _) rfl (fun K hK => ?_) ?_
              ·
                refine step_append_lies _ rfl (.tmp 21) (.tmp 24) 40 rfl w.heap.size 42 i0 (.agg #[.int .i64 0, .string ⟨#[]⟩, .slice none 0 0, .slice none 0 0]) 4 72 Tryd.underlying40 hi0 hz0 hz1 hz2 rfl (by decide) (.slice An n cn) n inner rfl HOW.out ⟨w2.heap.size, 0, none⟩ 1 1 [.int .i64 T.f0, .string T.f1, .slice E2 T.f2.length e2, .slice E3 T.f3.length e3] rfl rfl (World.news_of_block (cs := #[.int .i64 T.f0, .string T.f1, .slice E2 T.f2.length e2, .slice E3 T.f3.length e3]) (heap_alloc_new w2 _)) (by intro u hu; simp at hu; rcases hu with rfl | rfl | rfl | rfl <;> rfl) (by decide) (by unfold maxLen; omega) (by omega) HWZ.out _ rfl ?_
                intro gg cap w4 hown4 hg4 hat4 hlt4
                obtain ⟨r2, r3, r01⟩ := HG.out _ _ ((Below.refl _ _).drew.trans (HW.out.2.alloc HW.out.2.size _)) hg4
                have r0 := fun u => (r01 u).1
                have r1 := (r01 undef).2
                have H4 := Lib.hid (And.intro hown4 (And.intro hg4 hat4))
                clear hown4 hg4 hat4 hlt4 r01
                refine hK.out _ _ (by first | exact p0 | exact q0 | exact q1 | exact r1 | exact (r0 _)) (fun hHeld => ?_)
                clear hK K
                try simp only [Act.put, List.setIfInBounds_toArray, List.set_cons_zero, List.set_cons_succ]
                refine wpAnyH_take (i := 6) (v := ?_) rfl (by kernel_rfl) (by kernel_rfl) (by kernel_rfl) (fun _ _ _ h => h) (Or.inl ⟨by rfl, ?_⟩) (by assumption) ?_
                rotate_left
                · intro W hSw; (try dsimp only at hSw); go_simp; (try with_reducible rfl)
                try simp only [Act.put, List.setIfInBounds_toArray, List.set_cons_zero, List.set_cons_succ]
                refine wpAnyH_ready (rs := [7]) (by kernel_rfl) (by simp) ?_
                refine AllReadyH.cons (o := _) rfl (fun K hK => ?_) ?_
                ·
                  go_simp
                  refine hK.out _ _ (by first | exact p0 | exact q0 | exact q1 | exact r1 | exact (r0 _)) (fun hHeld => ?_)
                  clear hK K
                  try simp only [Act.put, List.setIfInBounds_toArray, List.set_cons_zero, List.set_cons_succ]
                  refine wpAnyH_done (by kernel_rfl) ?_ _
                  go_wp2; exact tree_round vs.length (by simpa [HLN.out] using TInv.snoc (xs := vs.take n) HV.out HS.out (fun _ q => q.elim) (by rw [HLN.out]; exact HIN.out.1) HIN.out.2 HB1.out.drew HW.out.1 HW.out.2 ((Below.refl _ _).alloc (Nat.le_refl _) _) (by rw [HLN.out]; exact H4.out.1) H4.out.2.1 (H4.out.2.2.imp id (fun e => by rw [e]; simp))) HTE.out hlt
                exact AllReadyH.nil
              exact AllReadyH.nil
            exact AllReadyH.nil
          exact AllReadyH.nil
        refine AllReadyH.cons (o := _) rfl (fun K hK => ?_) ?_
        ·
          go_simp
          go_at_call 21
          refine (HI.out _ _ [.int .i64 f0, .string f1, .slice B2 n2 d2, .slice B3 n3 d3] hTin (HC.out _ (Below.refl _ _).drew).2.2.2 HWS.out).mono ?_
          rintro e w2 ⟨cs, rfl, hx, hb2⟩
          obtain ⟨E2, E3, e2, e3, rfl, -, -⟩ := hx.cells
          obtain ⟨q0, q2, -⟩ := HC.out w2 ((Below.refl _ _).drew.trans hb2)
          obtain ⟨q1, q3, how, -⟩ := HC.out (w2.alloc (.cells #[.int .i64 T.f0, .string T.f1, .slice E2 T.f2.length e2, .slice E3 T.f3.length e3] 42)) ((Below.refl _ _).drew.trans (hb2.alloc hb2.size _))
          have HOW := Lib.hid how
          have HW := Lib.hid (And.intro hx hb2)
          have HWZ : Hid (w.heap.size ≤ (w2.alloc (.cells #[.int .i64 T.f0, .string T.f1, .slice E2 T.f2.length e2, .slice E3 T.f3.length e3] 42)).heap.size) := Lib.hid (by have h1 := HWS.out; have h2 := hb2.size; have h3 : w1.drew.heap.size = w1.heap.size := rfl; simp; omega)
          clear hx hb2 how
          refine hK.out _ _ (by first | exact p0 | exact q0 | exact q1 | exact r1 | exact (r0 _)) (fun hHeld => ?_)
          clear hK K
          try simp only [Act.put, List.setIfInBounds_toArray, List.set_cons_zero, List.set_cons_succ]
          refine wpAnyH_ready (rs := [1, 4]) (by kernel_rfl) (by simp) ?_
          refine AllReadyH.cons (o := _) rfl (fun K hK => ?_) ?_
          ·
            go_simp
            refine hK.out _ _ (by first | exact p0 | exact q0 | exact q1 | exact r1 | exact (r0 _)) (fun hHeld => ?_)
            clear hK K
            try simp only [Act.put, List.setIfInBounds_toArray, List.set_cons_zero, List.set_cons_succ]
            refine wpAnyH_ready (rs := [4]) (by kernel_rfl) (by simp) ?_
            refine AllReadyH.cons (o := _) rfl (fun K hK => ?_) ?_
            ·
              go_simp
              refine hK.out _ _ (by first | exact p0 | exact q0 | exact q1 | exact r1 | exact (r0 _)) (fun hHeld => ?_)
              clear hK K
              try simp only [Act.put, List.setIfInBounds_toArray, List.set_cons_zero, List.set_cons_succ]
              refine wpAnyH_ready (rs := [5]) (by kernel_rfl) (by simp) ?_
              refine AllReadyH.cons (o := _) rfl (fun K hK => ?_) ?_
              ·
                refine step_append_lies _ rfl (.tmp 21) (.tmp 24) 40 rfl w.heap.size 42 i0 (.agg #[.int .i64 0, .string ⟨#[]⟩, .slice none 0 0, .slice none 0 0]) 4 72 Tryd.underlying40 hi0 hz0 hz1 hz2 rfl (by decide) (.slice An n cn) n inner rfl HOW.out ⟨w2.heap.size, 0, none⟩ 1 1 [.int .i64 T.f0, .string T.f1, .slice E2 T.f2.length e2, .slice E3 T.f3.length e3] rfl rfl (World.news_of_block (cs := #[.int .i64 T.f0, .string T.f1, .slice E2 T.f2.length e2, .slice E3 T.f3.length e3]) (heap_alloc_new w2 _)) (by intro u hu; simp at hu; rcases hu with rfl | rfl | rfl | rfl <;> rfl) (by decide) (by unfold maxLen; omega) (by omega) HWZ.out _ rfl ?_
                intro gg cap w4 hown4 hg4 hat4 hlt4
                obtain ⟨r2, r3, r01⟩ := HG.out _ _ ((Below.refl _ _).drew.trans (HW.out.2.alloc HW.out.2.size _)) hg4
                have r0 := fun u => (r01 u).1
                have r1 := (r01 undef).2
                have H4 := Lib.hid (And.intro hown4 (And.intro hg4 hat4))
                clear hown4 hg4 hat4 hlt4 r01
                refine hK.out _ _ (by first | exact p0 | exact q0 | exact q1 | exact r1 | exact (r0 _)) (fun hHeld => ?_)
                clear hK K
                try simp only [Act.put, List.setIfInBounds_toArray, List.set_cons_zero, List.set_cons_succ]
                refine wpAnyH_take (i := 6) (v := ?_) rfl (by kernel_rfl) (by kernel_rfl) (by kernel_rfl) (fun _ _ _ h => h) (Or.inl ⟨by rfl, ?_⟩) (by assumption) ?_
                rotate_left
                · intro W hSw; (try dsimp only at hSw); go_simp; (try with_reducible rfl)
                try simp only [Act.put, List.setIfInBounds_toArray, List.set_cons_zero, List.set_cons_succ]
                refine wpAnyH_ready (rs := [7]) (by kernel_rfl) (by simp) ?_
                refine AllReadyH.cons (o := _) rfl (fun K hK => ?_) ?_
                ·
                  go_simp
                  refine hK.out _ _ (by first | exact p0 | exact q0 | exact q1 | exact r1 | exact (r0 _)) (fun hHeld => ?_)
                  clear hK K
                  try simp only [Act.put, List.setIfInBounds_toArray, List.set_cons_zero, List.set_cons_succ]
                  refine wpAnyH_done (by kernel_rfl) ?_ _
                  go_wp2; exact tree_round vs.length (by simpa [HLN.out] using TInv.snoc (xs := vs.take n) HV.out HS.out (fun _ q => q.elim) (by rw [HLN.out]; exact HIN.out.1) HIN.out.2 HB1.out.drew HW.out.1 HW.out.2 ((Below.refl _ _).alloc (Nat.le_refl _) _) (by rw [HLN.out]; exact H4.out.1) H4.out.2.1 (H4.out.2.2.imp id (fun e => by rw [e]; simp))) HTE.out hlt
                exact AllReadyH.nil
              exact AllReadyH.nil
            exact AllReadyH.nil
          refine AllReadyH.cons (o := _) rfl (fun K hK => ?_) ?_
          ·
            go_simp
            refine hK.out _ _ (by first | exact p0 | exact q0 | exact q1 | exact r1 | exact (r0 _)) (fun hHeld => ?_)
            clear hK K
            try simp only [Act.put, List.setIfInBounds_toArray, List.set_cons_zero, List.set_cons_succ]
            refine wpAnyH_ready (rs := [1]) (by kernel_rfl) (by simp) ?_
            refine AllReadyH.cons (o := _) rfl (fun K hK => ?_) ?_
            ·
              go_simp
              refine hK.out _ _ (by first | exact p0 | exact q0 | exact q1 | exact r1 | exact (r0 _)) (fun hHeld => ?_)
              clear hK K
              try simp only [Act.put, List.setIfInBounds_toArray, List.set_cons_zero, List.set_cons_succ]
              refine wpAnyH_ready (rs := [5]) (by kernel_rfl) (by simp) ?_
              refine AllReadyH.cons (o := _) rfl (fun K hK => ?_) ?_
              ·
                refine step_append_lies _ rfl (.tmp 21) (.tmp 24) 40 rfl w.heap.size 42 i0 (.agg #[.int .i64 0, .string ⟨#[]⟩, .slice none 0 0, .slice none 0 0]) 4 72 Tryd.underlying40 hi0 hz0 hz1 hz2 rfl (by decide) (.slice An n cn) n inner rfl HOW.out ⟨w2.heap.size, 0, none⟩ 1 1 [.int .i64 T.f0, .string T.f1, .slice E2 T.f2.length e2, .slice E3 T.f3.length e3] rfl rfl (World.news_of_block (cs := #[.int .i64 T.f0, .string T.f1, .slice E2 T.f2.length e2, .slice E3 T.f3.length e3]) (heap_alloc_new w2 _)) (by intro u hu; simp at hu; rcases hu with rfl | rfl | rfl | rfl <;> rfl) (by decide) (by unfold maxLen; omega) (by omega) HWZ.out _ rfl ?_
                intro gg cap w4 hown4 hg4 hat4 hlt4
                obtain ⟨r2, r3, r01⟩ := HG.out _ _ ((Below.refl _ _).drew.trans (HW.out.2.alloc HW.out.2.size _)) hg4
                have r0 := fun u => (r01 u).1
                have r1 := (r01 undef).2
                have H4 := Lib.hid (And.intro hown4 (And.intro hg4 hat4))
                clear hown4 hg4 hat4 hlt4 r01
                refine hK.out _ _ (by first | exact p0 | exact q0 | exact q1 | exact r1 | exact (r0 _)) (fun hHeld => ?_)
                clear hK K
                try simp only [Act.put, List.setIfInBounds_toArray, List.set_cons_zero, List.set_cons_succ]
                refine wpAnyH_take (i := 6) (v := ?_) rfl (by kernel_rfl) (by kernel_rfl) (by kernel_rfl) (fun _ _ _ h => h) (Or.inl ⟨by rfl, ?_⟩) (by assumption) ?_
                rotate_left
                · intro W hSw; (try dsimp only at hSw); go_simp; (try with_reducible rfl)
                try simp only [Act.put, List.setIfInBounds_toArray, List.set_cons_zero, List.set_cons_succ]
                refine wpAnyH_ready (rs := [7]) (by kernel_rfl) (by simp) ?_
                refine AllReadyH.cons (o := _) rfl (fun K hK => ?_) ?_
                ·
                  go_simp
                  refine hK.out _ _ (by first | exact p0 | exact q0 | exact q1 | exact r1 | exact (r0 _)) (fun hHeld => ?_)
                  clear hK K
                  try simp only [Act.put, List.setIfInBounds_toArray, List.set_cons_zero, List.set_cons_succ]
                  refine wpAnyH_done (by kernel_rfl) ?_ _
                  go_wp2; exact tree_round vs.length (by simpa [HLN.out] using TInv.snoc (xs := vs.take n) HV.out HS.out (fun _ q => q.elim) (by rw [HLN.out]; exact HIN.out.1) HIN.out.2 HB1.out.drew HW.out.1 HW.out.2 ((Below.refl _ _).alloc (Nat.le_refl _) _) (by rw [HLN.out]; exact H4.out.1) H4.out.2.1 (H4.out.2.2.imp id (fun e => by rw [e]; simp))) HTE.out hlt
                exact AllReadyH.nil
              exact AllReadyH.nil
            exact AllReadyH.nil
          exact AllReadyH.nil
        exact AllReadyH.nil
      · have hge : ¬ (n : Int) < (vs.length : Int) := by omega
        obtain rfl : n = vs.length := by omega
        rw [List.take_length] at HV
        obtain ⟨res, hres, hp⟩ := HV.out.res
        obtain ⟨r0, r1, r2, r3, hr4⟩ : ∃ a b c d, res = #[a, b, c, d] := by
          obtain ⟨l⟩ := res
          match l, hres with
          | [a, b, c, d], _ => exact ⟨a, b, c, d, rfl⟩
        subst hr4
        obtain ⟨inner, hin, hrep⟩ := HV.out.own
        obtain ⟨An, cn, hv⟩ := own_slice hin
        subst hv
        have hq := HV.out.out
        have o0 := cell_of_row _ _ 0 _ _ _ hq
        have o1 := cell_of_row _ _ 1 _ _ _ hq
        have o2 := cell_of_row _ _ 2 _ _ _ hq
        have o3 := cell_of_row _ _ 3 _ _ _ hq
        have y0 := cell_of_row _ _ 0 _ _ _ hp
        have z0 := Go.frozen_of_row _ _ 0 _ _ hp
        have h1 := heap_setCell_same _ _ 0 _ _ (.int .i64 k) hp
        have y1 := cell_of_row _ _ 1 _ _ _ h1
        have z1 := Go.frozen_of_row _ _ 1 _ _ h1
        have h2 := heap_setCell_same _ _ 1 _ _ (.string t) h1
        have y2 := cell_of_row _ _ 2 _ _ _ h2
        have z2 := Go.frozen_of_row _ _ 2 _ _ h2
        have h3 := heap_setCell_same _ _ 2 _ _ (.slice A2 ks.length c2) h2
        have y3 := cell_of_row _ _ 3 _ _ _ h3
        have z3 := Go.frozen_of_row _ _ 3 _ _ h3
        have h4 := heap_setCell_same _ _ 3 _ _ (.slice An vs.length cn) h3
        have H4 := Lib.hid h4
        clear h1 h2 h3 h4 hin hrep hq hp
        go_wp2
        (try simp only [Exit.inBlock, Exit.then])
        refine bodyPost_ret (cell_results rfl _ _ (w.heap.size + 1) 42 _ (0, 0) _ rfl H4.out Tryd.underlying42 rfl (by kernel_rfl)) rfl ?_
        exact tree_end l2 HT.out HV.out HS.out

theorem infopaOut : (Tryd.prog.info? 25).map (fun i => (i.zero, i.size, i.bytes)) = some (some (.agg #[.int .i64 0, .string ⟨#[]⟩, .slice none 0 0, .slice none 0 0]), 4, 72) := by kernel_rfl

set_option maxRecDepth 1000000 in
set_option maxHeartbeats 4000000 in
theorem paOut_any : ∀ (m : Nat) (T : S25) (cs : List Value) (w : World) (S : Nat → Prop), SizeOf.sizeOf T ≤ m → lim 1099511627776 T → TR w S T cs → (∀ i, S i → i < w.heap.size) → Calls Tryd.prog 19 #[.agg cs.toArray] w (TreePost w S T)
  | 0, T, cs, w, S, hm, _, _, _ => by cases T; simp at hm
  | m + 1, ⟨k, t, ks, vs⟩, cs, w, S, hm, hl, hT, hS => by
    obtain ⟨A2, A3, c2, c3, rfl, l2, l3⟩ := hT.cells
    simp only [lim] at hl
    have IH : ∀ v W cs, v ∈ vs → TR W S v cs → w.heap.size ≤ W.heap.size → Calls Tryd.prog 19 #[.agg cs.toArray] W (TreePost W S v) := fun v W cs hv hR hW =>
      paOut_any m v cs W S (by have := List.sizeOf_lt_of_mem hv; simp at hm; omega) (limL_get hl.2.2 hv) hR (fun i hi => by have := hS i hi; omega)
    have hlv : vs.length ≤ 1099511627776 := hl.2.1
    have HT := Lib.hid hT
    have HI := Lib.hid IH
    have HS := Lib.hid hS
    clear hT IH hl hS hm
    simp only [] at l2 l3
    show Calls Tryd.prog 19 #[.agg #[.int .i64 k, .string t, .slice A2 ks.length c2, .slice A3 vs.length c3]] w _
    go_enter Tryd.func19, Tryd.ntmps19
    go_wp2
    obtain ⟨W0, hW0⟩ : ∃ W : World, ((w.alloc (.cells #[.int .i64 k, .string t, .slice A2 ks.length c2, .slice A3 vs.length c3] 42)).alloc (.cells #[.int .i64 0, .string ⟨#[]⟩, .slice none 0 0, .slice none 0 0] 25)).alloc (.cells #[.int .i64 k, .string t, .slice A2 ks.length c2, .slice none 0 0] 25) = W := ⟨_, rfl⟩
    have HV0 : TInv w S (fun _ => False) 25 (w.heap.size + 1) (w.heap.size + 1 + 1) (.int .i64 k) (.string t) (.slice A2 ks.length c2) (vs.take 0) (.slice none 0 0) W0 := by
      obtain ⟨_, a1, a2, a3⟩ := heap_two (w := w) (.cells #[.int .i64 k, .string t, .slice A2 ks.length c2, .slice A3 vs.length c3] 42) (.cells #[.int .i64 0, .string ⟨#[]⟩, .slice none 0 0, .slice none 0 0] 25) (.cells #[.int .i64 k, .string t, .slice A2 ks.length c2, .slice none 0 0] 25)
      rw [hW0] at a2 a3
      refine ⟨by rw [← hW0]; exact below_three (Below.refl _ _) _ _ _, ⟨_, rfl, a2⟩, a3, ⟨by omega, by omega, by omega⟩, ⟨by simp [Value.ownBlock], by simp [Value.ownBlock]⟩, [], own_nil _ _ _ _, Reps.none _ _⟩
    rw [hW0]
    clear hW0
    go_loopw [16] (fun i wr => ∃ (n : Nat) (v : Value), n ≤ vs.length ∧ i = .int .i64 n ∧ Hid (TInv w S (fun _ => False) 25 (w.heap.size + 1) (w.heap.size + 1 + 1) (.int .i64 k) (.string t) (.slice A2 ks.length c2) (vs.take n) v wr)) (fun i _ => vs.length - (intOf i).toNat)
    case atStart => exact ⟨0, _, Nat.zero_le _, rfl, Lib.hid HV0⟩
    case round =>
      obtain ⟨n, v, hn, rfl, HV⟩ := hrel
      by_cases hlt : n < vs.length
      · have hbw := HV.out.below
        have hLN : (vs.take n).length = n := by simp; omega
        have hTw : TR _ S _ _ := HT.out.step (O := fun _ => False) (Only.of_below hbw) (fun _ _ _ q => q) (fun _ _ q => q)
        obtain ⟨ad, B2, d2, B3, d3, hA3, k0, k1, k2, k3, hkid⟩ := hTw.kid hlt
        obtain ⟨T, hTn⟩ : ∃ x, vs[n] = x := ⟨_, rfl⟩
        have hTin : T ∈ vs := by rw [← hTn]; exact List.getElem_mem hlt
        have hTE : vs.take (n + 1) = vs.take n ++ [T] := by rw [List.take_succ_eq_append_getElem hlt, hTn]
        rw [hTn] at k0 k1 k2 k3 hkid
        obtain ⟨f0, hf0⟩ : ∃ x, T.f0 = x := ⟨_, rfl⟩
        obtain ⟨f1, hf1⟩ : ∃ x, T.f1 = x := ⟨_, rfl⟩
        obtain ⟨n2, hn2⟩ : ∃ x, T.f2.length = x := ⟨_, rfl⟩
        obtain ⟨n3, hn3⟩ : ∃ x, T.f3.length = x := ⟨_, rfl⟩
        rw [hf0] at k0 hkid
        rw [hf1] at k1 hkid
        rw [hn2] at k2 hkid
        rw [hn3] at k3 hkid
        obtain ⟨inner, hin, hrep⟩ := HV.out.own
        obtain ⟨An, cn, hv⟩ := own_slice hin
        rw [hLN] at hv hin
        subst hv
        obtain ⟨w1, hw1⟩ : ∃ W : World, wr.alloc (.cells #[.int .i64 f0, .string f1, .slice B2 n2 d2, .slice B3 n3 d3] 42) = W := ⟨_, rfl⟩
        have hb1 : Below wr.heap.size wr w1 := by rw [← hw1]; exact (Below.refl _ _).alloc (Nat.le_refl _) _
        have hbx : w1.heap[wr.heap.size]? = some (.cells #[.int .i64 f0, .string f1, .slice B2 n2 d2, .slice B3 n3 d3] 42 (0, 0)) := by rw [← hw1]; exact heap_alloc_new _ _
        have hs1 : w1.heap.size = wr.heap.size + 1 := by rw [← hw1]; simp
        obtain ⟨lp, lq⟩ := HV.out.pq
        have hq1 : w1.heap[w.heap.size + 1 + 1]? = _ := (hb1.block _ lq).trans HV.out.out
        have hwr := hbw.size
        have ho1 : w1.ownsRow w.heap.size 25 4 (.slice An n cn) n inner := pw_own_below hin hb1
        have hrn : (Value.slice An n cn).ownBlock ≠ some (w.heap.size + 1 + 1) := HV.out.rowne.2
        have hrb : (Value.slice An n cn).ownBlock ≠ some wr.heap.size := fun e => by have := own_lt hin _ e; omega
        have HC : Hid (∀ W, Below w1.heap.size w1 W → (W.cell? ⟨wr.heap.size, 0, none⟩ = some (.int .i64 f0) ∧ W.cell? ⟨wr.heap.size, 1, none⟩ = some (.string f1) ∧ W.cell? ⟨wr.heap.size, 2, none⟩ = some (.slice B2 n2 d2) ∧ W.cell? ⟨wr.heap.size, 3, none⟩ = some (.slice B3 n3 d3)) ∧ W.cell? ⟨w.heap.size + 1 + 1, 3, none⟩ = some (.slice An n cn) ∧ W.ownsRow w.heap.size 25 4 (.slice An n cn) n inner ∧ TR W S T [.int .i64 f0, .string f1, .slice B2 n2 d2, .slice B3 n3 d3]) := Lib.hid fun W hW => by
          have e1 : W.heap[wr.heap.size]? = _ := (hW.block _ (by omega)).trans hbx
          have e3 : W.heap[w.heap.size + 1 + 1]? = _ := (hW.block _ (by omega)).trans hq1
          exact ⟨⟨cell_of_row _ _ 0 _ _ _ e1, cell_of_row _ _ 1 _ _ _ e1, cell_of_row _ _ 2 _ _ _ e1, cell_of_row _ _ 3 _ _ _ e1⟩, cell_of_row _ _ 3 _ _ _ e3, pw_own_below ho1 hW, (hkid.step (S' := S) (O := fun _ => False) (Only.of_below hb1) (fun _ _ _ q => q) (fun _ _ q => q)).step (O := fun _ => False) (Only.of_below hW) (fun _ _ _ q => q) (fun _ _ q => q)⟩
        have HG : Hid (∀ W W4 : World, Below w1.heap.size w1 W → W.grownBy W4 (Value.slice An n cn).ownBlock → W4.cell? ⟨w.heap.size + 1 + 1, 3, none⟩ = some (.slice An n cn) ∧ W4.frozen? ⟨w.heap.size + 1 + 1, 3, none⟩ = false ∧ ∀ u, ((W4.setCell ⟨w.heap.size + 1 + 1, 3, none⟩ u).cell? ⟨wr.heap.size, 0, none⟩ = some (.int .i64 f0) ∧ (W4.setCell ⟨w.heap.size + 1 + 1, 3, none⟩ u).cell? ⟨wr.heap.size, 1, none⟩ = some (.string f1) ∧ (W4.setCell ⟨w.heap.size + 1 + 1, 3, none⟩ u).cell? ⟨wr.heap.size, 2, none⟩ = some (.slice B2 n2 d2) ∧ (W4.setCell ⟨w.heap.size + 1 + 1, 3, none⟩ u).cell? ⟨wr.heap.size, 3, none⟩ = some (.slice B3 n3 d3)) ∧ (W4.cell? ⟨wr.heap.size, 0, none⟩ = some (.int .i64 f0) ∧ W4.cell? ⟨wr.heap.size, 1, none⟩ = some (.string f1) ∧ W4.cell? ⟨wr.heap.size, 2, none⟩ = some (.slice B2 n2 d2) ∧ W4.cell? ⟨wr.heap.size, 3, none⟩ = some (.slice B3 n3 d3))) := Lib.hid fun W W4 hW hg => by
          have hws := hW.size
          have e1 : W4.heap[wr.heap.size]? = _ := (hg.block _ (by omega) (fun q => hrb q.symm)).trans ((hW.block _ (by omega)).trans hbx)
          have e3 : W4.heap[w.heap.size + 1 + 1]? = _ := (hg.block _ (by omega) (fun q => hrn q.symm)).trans ((hW.block _ (by omega)).trans hq1)
          have e4 : ∀ u, (W4.setCell ⟨w.heap.size + 1 + 1, 3, none⟩ u).heap[wr.heap.size]? = _ := fun u => (Below.heap_setCell _ _ _ _ (by simp; omega)).trans e1
          exact ⟨cell_of_row _ _ 3 _ _ _ e3, Go.frozen_of_row _ _ 3 _ _ e3, fun u => ⟨⟨cell_of_row _ _ 0 _ _ _ (e4 u), cell_of_row _ _ 1 _ _ _ (e4 u), cell_of_row _ _ 2 _ _ _ (e4 u), cell_of_row _ _ 3 _ _ _ (e4 u)⟩, ⟨cell_of_row _ _ 0 _ _ _ e1, cell_of_row _ _ 1 _ _ _ e1, cell_of_row _ _ 2 _ _ _ e1, cell_of_row _ _ 3 _ _ _ e1⟩⟩⟩
        have HB1 := Lib.hid hb1
        have HWS : Hid (w.heap.size ≤ w1.drew.heap.size) := Lib.hid (by show w.heap.size ≤ w1.heap.size; omega)
        have HLN := Lib.hid hLN
        have HTE := Lib.hid hTE
        have HIN := Lib.hid (And.intro hin hrep)
        have hltI : (n : Int) < (vs.length : Int) := by omega
        obtain ⟨i0, hi0, hz0, hz1, hz2⟩ := info_parts infopaOut
        obtain ⟨p0, p1, -⟩ := HC.out w1 (Below.refl _ _)
        subst hA3
        clear hb1 hbx hs1 lp lq hq1 hwr ho1 hrn hrb hkid hTw hbw hLN hTE hin hrep hf0 hf1 hn2 hn3 hTn
        go_wp2_with fail
        clear hw1
        refine wp_region_held_drew (S := fun w' => w'.cell? ⟨wr.heap.size, 0, none⟩ = some (.int .i64 f0) ∧ w'.cell? ⟨wr.heap.size, 1, none⟩ = some (.string f1) ∧ w'.cell? ⟨wr.heap.size, 2, none⟩ = some (.slice B2 n2 d2) ∧ w'.cell? ⟨wr.heap.size, 3, none⟩ = some (.slice B3 n3 d3)) (by kernel_rfl) p0 (fun hHeld => ?_)
        refine wpAnyH_take (i := 0) (v := ?_) rfl (by kernel_rfl) (by kernel_rfl) (by kernel_rfl) (fun _ _ _ h => h) (Or.inl ⟨by rfl, ?_⟩) (by assumption) ?_
        rotate_left
        · intro W hSw; (try dsimp only at hSw); go_simp; (try with_reducible rfl)
        try simp only [Act.put, List.setIfInBounds_toArray, List.set_cons_zero, List.set_cons_succ]
        refine wpAnyH_take (i := 2) (v := ?_) rfl (by kernel_rfl) (by kernel_rfl) (by kernel_rfl) (fun _ _ _ h => h) (Or.inl ⟨by rfl, ?_⟩) (by assumption) ?_
        rotate_left
        · intro W hSw; (try dsimp only at hSw); go_simp; (try with_reducible rfl)
        try simp only [Act.put, List.setIfInBounds_toArray, List.set_cons_zero, List.set_cons_succ]
        refine wpAnyH_ready (rs := [1, 3]) (by kernel_rfl) (by simp) ?_
        refine AllReadyH.cons (o := _) rfl (fun K hK => ?_) ?_
        ·
          go_simp
          refine hK.out _ _ (by first | exact p0 | exact q0 | exact q1 | exact r1 | exact (r0 _)) (fun hHeld => ?_)
          clear hK K
          try simp only [Act.put, List.setIfInBounds_toArray, List.set_cons_zero, List.set_cons_succ]
          refine wpAnyH_ready (rs := [3]) (by kernel_rfl) (by simp) ?_
          refine AllReadyH.cons (o := _) rfl (fun K hK => ?_) ?_
          ·
            go_simp
            go_at_call 19
            refine (HI.out _ _ [.int .i64 f0, .string f1, .slice B2 n2 d2, .slice B3 n3 d3] hTin (HC.out _ (Below.refl _ _).drew).2.2.2 HWS.out).mono ?_
            rintro e w2 ⟨cs, rfl, hx, hb2⟩
            obtain ⟨E2, E3, e2, e3, rfl, -, -⟩ := hx.cells
            obtain ⟨q0, q2, -⟩ := HC.out w2 ((Below.refl _ _).drew.trans hb2)
            obtain ⟨q1, q3, how, -⟩ := HC.out (w2.alloc (.cells #[.int .i64 T.f0, .string T.f1, .slice E2 T.f2.length e2, .slice E3 T.f3.length e3] 25)) ((Below.refl _ _).drew.trans (hb2.alloc hb2.size _))
            have HOW := Lib.hid how
            have HW := Lib.hid (And.intro hx hb2)
            have HWZ : Hid (w.heap.size ≤ (w2.alloc (.cells #[.int .i64 T.f0, .string T.f1, .slice E2 T.f2.length e2, .slice E3 T.f3.length e3] 25)).heap.size) := Lib.hid (by have h1 := HWS.out; have h2 := hb2.size; have h3 : w1.drew.heap.size = w1.heap.size := rfl; simp; omega)
            clear hx hb2 how
            refine hK.out _ _ (by first | exact p0 | exact q0 | exact q1 | exact r1 | exact (r0 _)) (fun hHeld => ?_)
            clear hK K
            try simp only [Act.put, List.setIfInBounds_toArray, List.set_cons_zero, List.set_cons_succ]
            refine wpAnyH_ready (rs := [4]) (by kernel_rfl) (by simp) ?_
            refine AllReadyH.cons (o := _) rfl (fun K hK => ?_) ?_
            ·
              go_simp
              refine hK.out _ _ (by first | exact p0 | exact q0 | exact q1 | exact r1 | exact (r0 _)) (fun hHeld => ?_)
              clear hK K
              try simp only [Act.put, List.setIfInBounds_toArray, List.set_cons_zero, List.set_cons_succ]
              refine wpAnyH_ready (rs := [5]) (by kernel_rfl) (by simp) ?_
              refine AllReadyH.cons (o := _) rfl (fun K hK => ?_) ?_
              ·
                refine step_append_lies _ rfl (.tmp 21) (.tmp 24) 23 rfl w.heap.size 25 i0 (.agg #[.int .i64 0, .string ⟨#[]⟩, .slice none 0 0, .slice none 0 0]) 4 72 Tryd.underlying23 hi0 hz0 hz1 hz2 rfl (by decide) (.slice An n cn) n inner rfl HOW.out ⟨w2.heap.size, 0, none⟩ 1 1 [.int .i64 T.f0, .string T.f1, .slice E2 T.f2.length e2, .slice E3 T.f3.length e3] rfl rfl (World.news_of_block (cs := #[.int .i64 T.f0, .string T.f1, .slice E2 T.f2.length e2, .slice E3 T.f3.length e3]) (heap_alloc_new w2 _)) (by intro u hu; simp at hu; rcases hu with rfl | rfl | rfl | rfl <;> rfl) (by decide) (by unfold maxLen; omega) (by omega) HWZ.out _ rfl ?_
                intro gg cap w4 hown4 hg4 hat4 hlt4
                obtain ⟨r2, r3, r01⟩ := HG.out _ _ ((Below.refl _ _).drew.trans (HW.out.2.alloc HW.out.2.size _)) hg4
                have r0 := fun u => (r01 u).1
                have r1 := (r01 undef).2
                have H4 := Lib.hid (And.intro hown4 (And.intro hg4 hat4))
                clear hown4 hg4 hat4 hlt4 r01
                refine hK.out _ _ (by first | exact p0 | exact q0 | exact q1 | exact r1 | exact (r0 _)) (fun hHeld => ?_)
                clear hK K
                try simp only [Act.put, List.setIfInBounds_toArray, List.set_cons_zero, List.set_cons_succ]
                refine wpAnyH_take (i := 6) (v := ?_) rfl (by kernel_rfl) (by kernel_rfl) (by kernel_rfl) (fun _ _ _ h => h) (Or.inl ⟨by rfl, ?_⟩) (by assumption) ?_
                rotate_left
                · intro W hSw; (try dsimp only at hSw); go_simp; (try with_reducible rfl)
                try simp only [Act.put, List.setIfInBounds_toArray, List.set_cons_zero, List.set_cons_succ]
                refine wpAnyH_ready (rs := [7]) (by kernel_rfl) (by simp) ?_
                refine AllReadyH.cons (o := _) rfl (fun K hK => ?_) ?_
                ·
                  go_simp
                  refine hK.out _ _ (by first | exact p0 | exact q0 | exact q1 | exact r1 | exact (r0 _)) (fun hHeld => ?_)
                  clear hK K
                  try simp only [Act.put, List.setIfInBounds_toArray, List.set_cons_zero, List.set_cons_succ]
                  refine wpAnyH_done (by kernel_rfl) ?_ _
                  go_wp2; exact tree_round vs.length (by simpa [HLN.out] using TInv.snoc (xs := vs.take n) HV.out HS.out (fun _ q => q.elim) (by rw [HLN.out]; exact HIN.out.1) HIN.out.2 HB1.out.drew HW.out.1 HW.out.2 ((Below.refl _ _).alloc (Nat.le_refl _) _) (by rw [HLN.out]; exact H4.out.1) H4.out.2.1 (H4.out.2.2.imp id (fun e => by rw [e]; simp))) HTE.out hlt
                exact AllReadyH.nil
              exact AllReadyH.nil
            exact AllReadyH.nil
          exact AllReadyH.nil
        refine AllReadyH.cons (o := _) rfl (fun K hK => ?_) ?_
        ·
          go_simp
          go_at_call 19
          refine (HI.out _ _ [.int .i64 f0, .string f1, .slice B2 n2 d2, .slice B3 n3 d3] hTin (HC.out _ (Below.refl _ _).drew).2.2.2 HWS.out).mono ?_
          rintro e w2 ⟨cs, rfl, hx, hb2⟩
          obtain ⟨E2, E3, e2, e3, rfl, -, -⟩ := hx.cells
          obtain ⟨q0, q2, -⟩ := HC.out w2 ((Below.refl _ _).drew.trans hb2)
          obtain ⟨q1, q3, how, -⟩ := HC.out (w2.alloc (.cells #[.int .i64 T.f0, .string T.f1, .slice E2 T.f2.length e2, .slice E3 T.f3.length e3] 25)) ((Below.refl _ _).drew.trans (hb2.alloc hb2.size _))
          have HOW := Lib.hid how
          have HW := Lib.hid (And.intro hx hb2)
          have HWZ : Hid (w.heap.size ≤ (w2.alloc (.cells #[.int .i64 T.f0, .string T.f1, .slice E2 T.f2.length e2, .slice E3 T.f3.length e3] 25)).heap.size) := Lib.hid (by have h1 := HWS.out; have h2 := hb2.size; have h3 : w1.drew.heap.size = w1.heap.size := rfl; simp; omega)
          clear hx hb2 how
          refine hK.out _ _ (by first | exact p0 | exact q0 | exact q1 | exact r1 | exact (r0 _)) (fun hHeld => ?_)
          clear hK K
          try simp only [Act.put, List.setIfInBounds_toArray, List.set_cons_zero, List.set_cons_succ]
          refine wpAnyH_ready (rs := [1, 4]) (by kernel_rfl) (by simp) ?_
          refine AllReadyH.cons (o := _) rfl (fun K hK => ?_) ?_
          ·
            go_simp
            refine hK.out _ _ (by first | exact p0 | exact q0 | exact q1 | exact r1 | exact (r0 _)) (fun hHeld => ?_)
            clear hK K
            try simp only [Act.put, List.setIfInBounds_toArray, List.set_cons_zero, List.set_cons_succ]
            refine wpAnyH_ready (rs := [4]) (by kernel_rfl) (by simp) ?_
            refine AllReadyH.cons (o := _) rfl (fun K hK => ?_) ?_
            ·
              go_simp
              refine hK.out _ _ (by first | exact p0 | exact q0 | exact q1 | exact r1 | exact (r0 _)) (fun hHeld => ?_)
              clear hK K
              try simp only [Act.put, List.setIfInBounds_toArray, List.set_cons_zero, List.set_cons_succ]
              refine wpAnyH_ready (rs := [5]) (by kernel_rfl) (by simp) ?_
              refine AllReadyH.cons (o := _) rfl (fun K hK => ?_) ?_
              ·
                refine step_append_lies _ rfl (.tmp 21) (.tmp 24) 23 rfl w.heap.size 25 i0 (.agg #[.int .i64 0, .string ⟨#[]⟩, .slice none 0 0, .slice none 0 0]) 4 72 Tryd.underlying23 hi0 hz0 hz1 hz2 rfl (by decide) (.slice An n cn) n inner rfl HOW.out ⟨w2.heap.size, 0, none⟩ 1 1 [.int .i64 T.f0, .string T.f1, .slice E2 T.f2.length e2, .slice E3 T.f3.length e3] rfl rfl (World.news_of_block (cs := #[.int .i64 T.f0, .string T.f1, .slice E2 T.f2.length e2, .slice E3 T.f3.length e3]) (heap_alloc_new w2 _)) (by intro u hu; simp at hu; rcases hu with rfl | rfl | rfl | rfl <;> rfl) (by decide) (by unfold maxLen; omega) (by omega) HWZ.out _ rfl ?_
                intro gg cap w4 hown4 hg4 hat4 hlt4
                obtain ⟨r2, r3, r01⟩ := HG.out _ _ ((Below.refl _ _).drew.trans (HW.out.2.alloc HW.out.2.size _)) hg4
                have r0 := fun u => (r01 u).1
                have r1 := (r01 undef).2
                have H4 := Lib.hid (And.intro hown4 (And.intro hg4 hat4))
                clear hown4 hg4 hat4 hlt4 r01
                refine hK.out _ _ (by first | exact p0 | exact q0 | exact q1 | exact r1 | exact (r0 _)) (fun hHeld => ?_)
                clear hK K
                try simp only [Act.put, List.setIfInBounds_toArray, List.set_cons_zero, List.set_cons_succ]
                refine wpAnyH_take (i := 6) (v := ?_) rfl (by kernel_rfl) (by kernel_rfl) (by kernel_rfl) (fun _ _ _ h => h) (Or.inl ⟨by rfl, ?_⟩) (by assumption) ?_
                rotate_left
                · intro W hSw; (try dsimp only at hSw); go_simp; (try with_reducible rfl)
                try simp only [Act.put, List.setIfInBounds_toArray, List.set_cons_zero, List.set_cons_succ]
                refine wpAnyH_ready (rs := [7]) (by kernel_rfl) (by simp) ?_
                refine AllReadyH.cons (o := _) rfl (fun K hK => ?_) ?_
                ·
                  go_simp
                  refine hK.out _ _ (by first | exact p0 | exact q0 | exact q1 | exact r1 | exact (r0 _)) (fun hHeld => ?_)
                  clear hK K
                  try simp only [Act.put, List.setIfInBounds_toArray, List.set_cons_zero, List.set_cons_succ]
                  refine wpAnyH_done (by kernel_rfl) ?_ _
                  go_wp2; exact tree_round vs.length (by simpa [HLN.out] using TInv.snoc (xs := vs.take n) HV.out HS.out (fun _ q => q.elim) (by rw [HLN.out]; exact HIN.out.1) HIN.out.2 HB1.out.drew HW.out.1 HW.out.2 ((Below.refl _ _).alloc (Nat.le_refl _) _) (by rw [HLN.out]; exact H4.out.1) H4.out.2.1 (H4.out.2.2.imp id (fun e => by rw [e]; simp))) HTE.out hlt
                exact AllReadyH.nil
              exact AllReadyH.nil
            exact AllReadyH.nil
          refine AllReadyH.cons (o := _) rfl (fun K hK => ?_) ?_
          ·
            go_simp
            refine hK.out _ _ (by first | exact p0 | exact q0 | exact q1 | exact r1 | exact (r0 _)) (fun hHeld => ?_)
            clear hK K
            try simp only [Act.put, List.setIfInBounds_toArray, List.set_cons_zero, List.set_cons_succ]
            refine wpAnyH_ready (rs := [1]) (by kernel_rfl) (by simp) ?_
            refine AllReadyH.cons (o := _) rfl (fun K hK => ?_) ?_
            ·
              go_simp
              refine hK.out _ _ (by first | exact p0 | exact q0 | exact q1 | exact r1 | exact (r0 _)) (fun hHeld => ?_)
              clear hK K
              try simp only [Act.put, List.setIfInBounds_toArray, List.set_cons_zero, List.set_cons_succ]
              refine wpAnyH_ready (rs := [5]) (by kernel_rfl) (by simp) ?_
              refine AllReadyH.cons (o := _) rfl (fun K hK => ?_) ?_
              ·
                refine step_append_lies _ rfl (.tmp 21) (.tmp 24) 23 rfl w.heap.size 25 i0 (.agg #[.int .i64 0, .string ⟨#[]⟩, .slice none 0 0, .slice none 0 0]) 4 72 Tryd.underlying23 hi0 hz0 hz1 hz2 rfl (by decide) (.slice An n cn) n inner rfl HOW.out ⟨w2.heap.size, 0, none⟩ 1 1 [.int .i64 T.f0, .string T.f1, .slice E2 T.f2.length e2, .slice E3 T.f3.length e3] rfl rfl (World.news_of_block (cs := #[.int .i64 T.f0, .string T.f1, .slice E2 T.f2.length e2, .slice E3 T.f3.length e3]) (heap_alloc_new w2 _)) (by intro u hu; simp at hu; rcases hu with rfl | rfl | rfl | rfl <;> rfl) (by decide) (by unfold maxLen; omega) (by omega) HWZ.out _ rfl ?_
                intro gg cap w4 hown4 hg4 hat4 hlt4
                obtain ⟨r2, r3, r01⟩ := HG.out _ _ ((Below.refl _ _).drew.trans (HW.out.2.alloc HW.out.2.size _)) hg4
                have r0 := fun u => (r01 u).1
                have r1 := (r01 undef).2
                have H4 := Lib.hid (And.intro hown4 (And.intro hg4 hat4))
                clear hown4 hg4 hat4 hlt4 r01
                refine hK.out _ _ (by first | exact p0 | exact q0 | exact q1 | exact r1 | exact (r0 _)) (fun hHeld => ?_)
                clear hK K
                try simp only [Act.put, List.setIfInBounds_toArray, List.set_cons_zero, List.set_cons_succ]
                refine wpAnyH_take (i := 6) (v := ?_) rfl (by kernel_rfl) (by kernel_rfl) (by kernel_rfl) (fun _ _ _ h => h) (Or.inl ⟨by rfl, ?_⟩) (by assumption) ?_
                rotate_left
                · intro W hSw; (try dsimp only at hSw); go_simp; (try with_reducible rfl)
                try simp only [Act.put, List.setIfInBounds_toArray, List.set_cons_zero, List.set_cons_succ]
                refine wpAnyH_ready (rs := [7]) (by kernel_rfl) (by simp) ?_
                refine AllReadyH.cons (o := _) rfl (fun K hK => ?_) ?_
                ·
                  go_simp
                  refine hK.out _ _ (by first | exact p0 | exact q0 | exact q1 | exact r1 | exact (r0 _)) (fun hHeld => ?_)
                  clear hK K
                  try simp only [Act.put, List.setIfInBounds_toArray, List.set_cons_zero, List.set_cons_succ]
                  refine wpAnyH_done (by kernel_rfl) ?_ _
                  go_wp2; exact tree_round vs.length (by simpa [HLN.out] using TInv.snoc (xs := vs.take n) HV.out HS.out (fun _ q => q.elim) (by rw [HLN.out]; exact HIN.out.1) HIN.out.2 HB1.out.drew HW.out.1 HW.out.2 ((Below.refl _ _).alloc (Nat.le_refl _) _) (by rw [HLN.out]; exact H4.out.1) H4.out.2.1 (H4.out.2.2.imp id (fun e => by rw [e]; simp))) HTE.out hlt
                exact AllReadyH.nil
              exact AllReadyH.nil
            exact AllReadyH.nil
          exact AllReadyH.nil
        exact AllReadyH.nil
      · have hge : ¬ (n : Int) < (vs.length : Int) := by omega
        obtain rfl : n = vs.length := by omega
        rw [List.take_length] at HV
        obtain ⟨res, hres, hp⟩ := HV.out.res
        obtain ⟨r0, r1, r2, r3, hr4⟩ : ∃ a b c d, res = #[a, b, c, d] := by
          obtain ⟨l⟩ := res
          match l, hres with
          | [a, b, c, d], _ => exact ⟨a, b, c, d, rfl⟩
        subst hr4
        obtain ⟨inner, hin, hrep⟩ := HV.out.own
        obtain ⟨An, cn, hv⟩ := own_slice hin
        subst hv
        have hq := HV.out.out
        have o0 := cell_of_row _ _ 0 _ _ _ hq
        have o1 := cell_of_row _ _ 1 _ _ _ hq
        have o2 := cell_of_row _ _ 2 _ _ _ hq
        have o3 := cell_of_row _ _ 3 _ _ _ hq
        have y0 := cell_of_row _ _ 0 _ _ _ hp
        have z0 := Go.frozen_of_row _ _ 0 _ _ hp
        have h1 := heap_setCell_same _ _ 0 _ _ (.int .i64 k) hp
        have y1 := cell_of_row _ _ 1 _ _ _ h1
        have z1 := Go.frozen_of_row _ _ 1 _ _ h1
        have h2 := heap_setCell_same _ _ 1 _ _ (.string t) h1
        have y2 := cell_of_row _ _ 2 _ _ _ h2
        have z2 := Go.frozen_of_row _ _ 2 _ _ h2
        have h3 := heap_setCell_same _ _ 2 _ _ (.slice A2 ks.length c2) h2
        have y3 := cell_of_row _ _ 3 _ _ _ h3
        have z3 := Go.frozen_of_row _ _ 3 _ _ h3
        have h4 := heap_setCell_same _ _ 3 _ _ (.slice An vs.length cn) h3
        have H4 := Lib.hid h4
        clear h1 h2 h3 h4 hin hrep hq hp
        go_wp2
        (try simp only [Exit.inBlock, Exit.then])
        refine bodyPost_ret (cell_results rfl _ _ (w.heap.size + 1) 25 _ (0, 0) _ rfl H4.out Tryd.underlying25 rfl (by kernel_rfl)) rfl ?_
        exact tree_end l2 HT.out HV.out HS.out
end Go.Proofs.YtdjogkfgegopfaaDoor
