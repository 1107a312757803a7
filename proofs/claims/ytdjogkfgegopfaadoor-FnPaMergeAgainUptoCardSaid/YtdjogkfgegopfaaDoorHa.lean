/- Words for memory of one's own: what a call may have written; a map from strings to pointers as a function; ranging over it. No condition. -/
import Derived.Test.YtdjogkfgegopfaaDoorProg
import Derived.Maps.RangeWalk
import Derived.WalkKit
import Derived.WalkSpells
import Derived.WalkMore
import Derived.WalkSmall
import Derived.Lib.Hide
import Derived.Outline
import Derived.Test.YtdjogkfgegopfaaDoorPa
import Derived.Test.YtdjogkfgegopfaaDoorMFnPaMergeAgain7
import Derived.Deep.RegionLaw
namespace Go.Proofs.YtdjogkfgegopfaaDoor
open Go.RowKit Go.Maps
set_option linter.unusedVariables false

/-- w' is w with new blocks, and of the old ones none but those of O are written. -/
structure Only (O : Nat → Prop) (w w' : World) : Prop where
  os : w'.os = w.os
  tape : w'.tape = w.tape
  output : w'.output = w.output
  size : w.heap.size ≤ w'.heap.size
  block : ∀ k, k < w.heap.size → ¬ O k → w'.heap[k]? = w.heap[k]?

theorem Only.refl (O : Nat → Prop) (w : World) : Only O w w := ⟨rfl, rfl, rfl, Nat.le_refl _, fun _ _ _ => rfl⟩
theorem Only.trans {O O1 O2 : Nat → Prop} {w w1 w2 : World} (h : Only O1 w w1) (k : Only O2 w1 w2) (h1 : ∀ i, i < w.heap.size → O1 i → O i) (h2 : ∀ i, i < w.heap.size → O2 i → O i) : Only O w w2 :=
  ⟨k.os.trans h.os, k.tape.trans h.tape, k.output.trans h.output, Nat.le_trans h.size k.size, fun i hi hn => (k.block i (Nat.lt_of_lt_of_le hi h.size) (fun q => hn (h2 i hi q))).trans (h.block i hi (fun q => hn (h1 i hi q)))⟩
theorem Only.mono {O O' : Nat → Prop} {w w1 : World} (h : Only O w w1) (hO : ∀ i, i < w.heap.size → O i → O' i) : Only O' w w1 :=
  ⟨h.os, h.tape, h.output, h.size, fun i hi hn => h.block i hi (fun q => hn (hO i hi q))⟩
theorem Only.of_below {O : Nat → Prop} {w w1 : World} (h : Below w.heap.size w w1) : Only O w w1 := ⟨h.os, h.tape, h.output, h.size, fun i hi _ => h.block i hi⟩
theorem Only.below {O : Nat → Prop} {w w1 : World} {B : Nat} (h : Only O w w1) (hO : ∀ i, i < w.heap.size → O i → B ≤ i) (hB : B ≤ w.heap.size) : Below B w w1 :=
  ⟨h.os, h.tape, h.output, h.size, fun i hi => h.block i (by omega) (fun q => by have := hO i (by omega) q; omega)⟩
theorem Only.of_grown {O : Nat → Prop} {w w1 : World} {row : Option Nat} (h : w.grownBy w1 row) (hO : ∀ i, row = some i → O i) : Only O w w1 :=
  ⟨h.os, h.tape, h.output, h.size, fun i hi hn => h.block i hi (fun q => hn (hO i q.symm))⟩
theorem Only.set {O : Nat → Prop} (w : World) (b j : Nat) (v : Value) (hO : O b) : Only O w (w.setCell ⟨b, j, none⟩ v) :=
  ⟨rfl, rfl, rfl, by simp [World.setCell], fun i _ hn => Below.heap_setCell w ⟨b, j, none⟩ v i (fun e => hn (by rw [e]; exact hO))⟩
theorem Only.alloc {O : Nat → Prop} (w : World) (o : Obj) : Only O w (w.alloc o) := Only.of_below (below_alloc' w o)
where below_alloc' (w : World) (o : Obj) : Below w.heap.size w (w.alloc o) := (Below.refl _ _).alloc (Nat.le_refl _) o

/-- How a pointer to a whole block reads: its number. -/
def RP : Value → Option (DataW Unit × List MemPlace)
  | .pointer none => some (.nil, [])
  | .pointer (some ⟨b, 0, none⟩) => some (.lit (.int .u64 (b : Int)), [])
  | _ => none
theorem RP_inv {v : Value} {z : DataW Unit × List MemPlace} (h : RP v = some z) : (v = .pointer none ∧ z = (.nil, [])) ∨ ∃ b, v = .pointer (some ⟨b, 0, none⟩) ∧ z = (.lit (.int .u64 (b : Int)), []) := by
  unfold RP at h
  split at h
  · simp only [Option.some.injEq] at h; exact .inl ⟨rfl, h.symm⟩
  · rename_i b; simp only [Option.some.injEq] at h; exact .inr ⟨b, rfl, h.symm⟩
  · cases h
theorem RP_inj {v v' : Value} {d : DataW Unit} {p p' : List MemPlace} (h : RP v = some (d, p)) (h' : RP v' = some (d, p')) : v = v' := by
  rcases RP_inv h with ⟨rfl, e⟩ | ⟨b, rfl, e⟩ <;> rcases RP_inv h' with ⟨rfl, e'⟩ | ⟨b', rfl, e'⟩ <;> simp only [Prod.mk.injEq] at e e'
  · rfl
  · rw [e.1] at e'; simp at e'
  · rw [e.1] at e'; simp at e'
  · rw [e.1] at e'
    have : (b : Int) = b' := by simpa using e'.1
    have : b = b' := by omega
    rw [this]
theorem RP_nil {v : Value} {z : DataW Unit × List MemPlace} (h : RP v = some z) : z.2 = [] := by
  rcases RP_inv h with ⟨_, e⟩ | ⟨_, _, e⟩ <;> rw [e]

/-- The key as the maps' laws read it. -/
def LK (s : ByteArray) : Lit := .string s.data.toList
theorem LK_inj {s t : ByteArray} (h : LK s = LK t) : s = t := by
  unfold LK at h
  simp only [Lit.string.injEq] at h
  cases s; cases t
  simp only [ByteArray.mk.injEq]
  exact Array.toList_inj.1 h
theorem LK_key (s : ByteArray) : WideAt.IsKeyLit (LK s) := trivial
theorem law : Keyed Tryd.prog 9 := string_keyed Tryd.underlying9
theorem keyOf_LK {s : ByteArray} (h : s.size ≤ maxLen) : keyOf Tryd.prog 9 (.string s) = some (LK s) := WideMaps.keyOf_string_mk Tryd.underlying9 h
theorem keyOf_inv {v : Value} {kl : Lit} (h : keyOf Tryd.prog 9 v = some kl) : ∃ s, v = .string s ∧ kl = LK s ∧ s.size ≤ maxLen := by
  cases v <;> simp [keyOf, mapKey, Tryd.underlying9] at h
  obtain ⟨h1, rfl⟩ := h
  exact ⟨_, rfl, rfl, h1⟩

/-- The datum of a map, told as a function of the key. -/
def DIs (D : DataW Unit) (f : ByteArray → Option Value) : Prop :=
  IsMap D ∧ ∀ key : ByteArray, key.size ≤ maxLen → match f key with
    | none => Maps.has D (LK key) = false
    | some v => Maps.has D (LK key) = true ∧ ∃ d, RP v = some (d, []) ∧ ∀ zd, D.atKey (LK key) zd = d

def upd (f : ByteArray → Option Value) (key : ByteArray) (v : Option Value) : ByteArray → Option Value := fun x => if x = key then v else f x

theorem DIs.put {D : DataW Unit} {f : ByteArray → Option Value} (h : DIs D f) (key : ByteArray) (v : Value) (d : DataW Unit) (hv : RP v = some (d, [])) : DIs (D.put (LK key) d) (upd f key (some v)) := by
  refine ⟨h.1.put _ _, fun x hx => ?_⟩
  unfold upd
  by_cases e : x = key
  · subst e
    rw [if_pos rfl]
    exact ⟨has_put_same h.1 (LK_key _) _, d, hv, fun zd => atKey_put_same h.1 (LK_key _) _ _⟩
  · rw [if_neg e]
    have hne : LK x ≠ LK key := fun q => e (LK_inj q)
    have := h.2 x hx
    rw [has_put_other hne]
    cases hf : f x with
    | none => rw [hf] at this; exact this
    | some u =>
      rw [hf] at this
      obtain ⟨h1, d', h2, h3⟩ := this
      exact ⟨h1, d', h2, fun zd => by rw [atKey_put_other hne]; exact h3 zd⟩
theorem DIs.del {D : DataW Unit} {f : ByteArray → Option Value} (h : DIs D f) (key : ByteArray) : DIs (D.del (LK key)) (upd f key none) := by
  refine ⟨h.1.del _, fun x hx => ?_⟩
  unfold upd
  by_cases e : x = key
  · subst e
    rw [if_pos rfl]
    exact has_del_same
  · rw [if_neg e]
    have hne : LK x ≠ LK key := fun q => e (LK_inj q)
    have := h.2 x hx
    rw [has_del_other hne]
    cases hf : f x with
    | none => rw [hf] at this; exact this
    | some u =>
      rw [hf] at this
      obtain ⟨h1, d', h2, h3⟩ := this
      exact ⟨h1, d', h2, fun zd => by rw [atKey_del_other hne]; exact h3 zd⟩
theorem DIs.none {D : DataW Unit} {f : ByteArray → Option Value} (h : DIs D f) {key : ByteArray} (hk : key.size ≤ maxLen) (hf : f key = none) : Maps.has D (LK key) = false := by
  have := h.2 key hk; rw [hf] at this; exact this
theorem DIs.some {D : DataW Unit} {f : ByteArray → Option Value} (h : DIs D f) {key : ByteArray} (hk : key.size ≤ maxLen) {v : Value} (hf : f key = some v) : Maps.has D (LK key) = true ∧ ∃ d, RP v = some (d, []) ∧ ∀ zd, D.atKey (LK key) zd = d := by
  have := h.2 key hk; rw [hf] at this; exact this

/-- Block m is a map of at most n entries that holds f. -/
def MapIs (w : World) (m n : Nat) (f : ByteArray → Option Value) : Prop := ∃ D, w.ownsMap Tryd.prog 9 RP m n D ∧ DIs D f
/-- Block r is an iterator over it, to which todo is left. -/
def RangeIs (w : World) (m r n : Nat) (f : ByteArray → Option Value) (todo : ByteArray → Bool) (cnt : Nat) : Prop :=
  ∃ D left, w.ranges Tryd.prog 9 RP m r n D left cnt ∧ DIs D f ∧ ∀ key : ByteArray, key.size ≤ maxLen → left (LK key) = todo key

theorem MapIs.lt {w : World} {m n : Nat} {f : ByteArray → Option Value} (h : MapIs w m n f) : m < w.heap.size := by obtain ⟨D, h, _⟩ := h; exact h.lt
theorem MapIs.move {w w1 : World} {m n : Nat} {f : ByteArray → Option Value} (h : MapIs w m n f) (hm : w1.heap[m]? = w.heap[m]?) : MapIs w1 m n f := by
  obtain ⟨D, ⟨es, clock, hb, r⟩, hD⟩ := h
  exact ⟨D, ⟨es, clock, hm.trans hb, r⟩, hD⟩
theorem MapIs.mono {w : World} {m n n' : Nat} {f : ByteArray → Option Value} (h : MapIs w m n f) (hn : n ≤ n') : MapIs w m n' f := by obtain ⟨D, h, hD⟩ := h; exact ⟨D, h.mono hn, hD⟩
theorem RangeIs.owns {w : World} {m r n cnt : Nat} {f : ByteArray → Option Value} {todo : ByteArray → Bool} (h : RangeIs w m r n f todo cnt) : MapIs w m n f := by
  obtain ⟨D, left, h, hD, _⟩ := h; exact ⟨D, h.owns, hD⟩
theorem RangeIs.lt {w : World} {m r n cnt : Nat} {f : ByteArray → Option Value} {todo : ByteArray → Bool} (h : RangeIs w m r n f todo cnt) : r < w.heap.size := by
  obtain ⟨D, left, h, hD, _⟩ := h; exact h.lt
theorem RangeIs.left_eq {w : World} {m r n cnt : Nat} {f : ByteArray → Option Value} {todo : ByteArray → Bool} (h : RangeIs w m r n f todo cnt) : w.rangeLeft m r = cnt := by
  obtain ⟨D, left, h, hD, _⟩ := h; exact h.left_eq
theorem RangeIs.move {w w1 : World} {m r n cnt : Nat} {f : ByteArray → Option Value} {todo : ByteArray → Bool} (h : RangeIs w m r n f todo cnt) (hm : w1.heap[m]? = w.heap[m]?) (hr : w1.heap[r]? = w.heap[r]?) : RangeIs w1 m r n f todo cnt := by
  obtain ⟨D, left, ⟨es, clock, since, seen, c0, hb, F, hs, hD, hr0, rest⟩, h2⟩ := h
  exact ⟨D, left, ⟨es, clock, since, seen, c0, hm.trans hb, F, hs, hD, hr.trans hr0, rest⟩, h2⟩

/-- As many entries as names, at most. -/
theorem length_le_of_nodup {α : Type} [DecidableEq α] : ∀ (l l' : List α), l.Nodup → (∀ x, x ∈ l → x ∈ l') → l.length ≤ l'.length
  | [], _, _, _ => Nat.zero_le _
  | a :: l, l', hn, hs => by
    have h1 := length_le_of_nodup l (l'.erase a) (List.nodup_cons.1 hn).2 (fun x hx => (List.mem_erase_of_ne (fun e => by subst e; exact (List.nodup_cons.1 hn).1 hx)).2 (hs x (List.mem_cons_of_mem _ hx)))
    have h2 := List.length_erase_of_mem (hs a List.mem_cons_self)
    have h3 := List.length_pos_of_mem (hs a List.mem_cons_self)
    simp only [List.length_cons]
    omega
theorem MapIs.shrink {w : World} {m n : Nat} {f : ByteArray → Option Value} (h : MapIs w m n f) (ks : List ByteArray) (hf : ∀ k, k ∉ ks → f k = none) : MapIs w m ks.length f := by
  obtain ⟨D, ho, hD⟩ := h
  have hD0 := hD
  obtain ⟨es0, rfl, hap, hkl⟩ := ho.entries law
  obtain ⟨es, clock, hb, F, hs, e⟩ := ho
  refine ⟨_, ⟨es, clock, hb, F, ?_, e⟩, hD⟩
  have hlen : es.size = es0.length := by
    have : es0 = (es.toList.map (WideElems.rg Tryd.prog 9 RP)).foldr DataW.insert [] := by simpa using e
    rw [this, length_sorted]
    simp
  rw [hlen]
  have hmem : ∀ p, p ∈ es0 → ∃ s, p.1 = LK s ∧ s ∈ ks := by
    intro p hp
    have hp' : p ∈ es.toList.map (WideElems.rg Tryd.prog 9 RP) := by
      have : es0 = (es.toList.map (WideElems.rg Tryd.prog 9 RP)).foldr DataW.insert [] := by simpa using e
      rw [this] at hp
      exact mem_sorted.1 hp
    obtain ⟨x, hx, hxp⟩ := List.mem_map.1 hp'
    obtain ⟨y, hy⟩ := F.reads x hx
    have hk := WideElems.rd_key hy
    obtain ⟨s, _, hs2, hs3⟩ := keyOf_inv hk
    have hpl : p.1 = LK s := by rw [← hxp, WideElems.rg_of hy]; exact hs2
    refine ⟨s, hpl, Classical.byContradiction fun hn => ?_⟩
    have h1 := hD0.none hs3 (hf s hn)
    have h2 : Maps.has (.map es0) (LK s) = true := by
      rw [has_eq]
      exact List.any_eq_true.2 ⟨p, hp, by rw [hpl]; exact WideAt.sameKey_self (LK_key s)⟩
    rw [h1] at h2
    cases h2
  classical
  have h3 := length_le_of_nodup (es0.map (·.1)) (ks.map LK) (by
    rw [List.nodup_iff_pairwise_ne, List.pairwise_map]
    exact hap) (by
    intro x hx
    obtain ⟨p, hp, rfl⟩ := List.mem_map.1 hx
    obtain ⟨s, hs1, hs2⟩ := hmem p hp
    rw [hs1]
    exact List.mem_map.2 ⟨s, hs2, rfl⟩)
  simpa using h3

theorem zero_ptr (w : World) : (zeroValue 62).run Tryd.prog w = .ok (.pointer none) w := by kernel_rfl
def MT : TypeId := 95
theorem under_map : Tryd.prog.underlying 95 = some (.map 9 62) := Tryd.underlying95

/-- v, ok := m[key] -/
theorem MapIs.look {w : World} {m n : Nat} {f : ByteArray → Option Value} (h : MapIs w m n f) {key : ByteArray} (hk : key.size ≤ maxLen) :
    (Instr.lookup 95 (.map (some m)) (.string key) true).run Tryd.prog w = .ok (.tuple #[(f key).getD (.pointer none), .bool (f key).isSome]) w := by
  obtain ⟨D, ho, hD⟩ := h
  obtain ⟨v, ps, hrun, hv⟩ := ho.look_ok law under_map (zero_ptr w) (zd := .nil) (zp := []) rfl (keyOf_LK hk)
  rw [hrun]
  cases hf : f key with
  | none =>
    have h0 := hD.none hk hf
    rw [atKey_of_not_has h0] at hv
    rw [h0, RP_inj hv (v' := .pointer none) (p' := []) rfl]
    rfl
  | some u =>
    obtain ⟨h1, d, h2, h3⟩ := hD.some hk hf
    rw [h3] at hv
    rw [h1, RP_inj hv h2]
    rfl
/-- m[key] -/
theorem MapIs.get {w : World} {m n : Nat} {f : ByteArray → Option Value} (h : MapIs w m n f) {key : ByteArray} (hk : key.size ≤ maxLen) :
    (Instr.lookup 95 (.map (some m)) (.string key) false).run Tryd.prog w = .ok ((f key).getD (.pointer none)) w := by
  obtain ⟨D, ho, hD⟩ := h
  obtain ⟨v, ps, hrun, hv⟩ := ho.lookup law under_map (zero_ptr w) (zd := .nil) (zp := []) rfl (keyOf_LK hk)
  rw [hrun]
  cases hf : f key with
  | none =>
    have h0 := hD.none hk hf
    rw [atKey_of_not_has h0] at hv
    rw [RP_inj hv (v' := .pointer none) (p' := []) rfl]
    rfl
  | some u =>
    obtain ⟨h1, d, h2, h3⟩ := hD.some hk hf
    rw [h3] at hv
    rw [RP_inj hv h2]
    rfl

section
variable (w : World) {ops : Array Oper} {rest : List Oper} {o : Oper} {a : Act} {Q : Exit → Act → World → Prop}
/-- m[key] = v -/
theorem wp_store (hg : o.guard = none) (mo x v : Operand) (hop : o.op = Op.mapUpdate 95 mo x v) (m n : Nat) (f : ByteArray → Option Value)
    (hm : a.eval mo = .map (some m)) (h : MapIs w m n f) (hn : n < maxLen) (key : ByteArray) (hk : key.size ≤ maxLen) (val : Value) (hx : a.eval x = .string key) (hv : a.eval v = val) (hr : (RP val).isSome = true)
    (hK : ∀ w', MapIs w' m (n + 1) (upd f key (some val)) → w.grownBy w' (some m) → wpList Tryd.prog ops Q rest (a.put o.dst undef) w') :
    wpList Tryd.prog ops Q (o :: rest) a w := by
  obtain ⟨D, ho, hD⟩ := h
  obtain ⟨⟨d, ps⟩, hd⟩ := Option.isSome_iff_exists.1 hr
  obtain rfl : ps = [] := RP_nil hd
  exact wpList_mapUpdate_own w hg mo x v _ hop 9 _ law under_map RP m n D hm ho hn (.string key) val (LK key) hx hv (keyOf_LK hk) d [] hd (fun w' h1 h2 => hK w' ⟨_, h1, hD.put key val d hd⟩ h2)
/-- delete(m, key), whoever ranges over m. -/
theorem wp_delete (hg : o.guard = none) (mo x : Operand) (hop : o.op = Op.call { callee := Callee.builtin Builtin.delete, args := #[mo, x], argTypes := #[95, 9] })
    (m n : Nat) (f : ByteArray → Option Value) (hm : a.eval mo = .map (some m)) (h : MapIs w m n f) (key : ByteArray) (hk : key.size ≤ maxLen) (hx : a.eval x = .string key)
    (hK : ∀ w', MapIs w' m n (upd f key none) → w.grownBy w' (some m) → (∀ r n f todo cnt, RangeIs w m r n f todo cnt → ∃ cnt', RangeIs w' m r n (upd f key none) (fun z => todo z && decide (z ≠ key)) cnt' ∧ cnt' ≤ cnt) → wpList Tryd.prog ops Q rest (a.put o.dst (.tuple #[])) w') :
    wpList Tryd.prog ops Q (o :: rest) a w := by
  obtain ⟨D, ho, hD⟩ := h
  refine wpList_plain hg fun K' hK' => ?_
  obtain ⟨w', hrun, r1, r2⟩ := ho.drop law under_map (keyOf_LK hk) o.type
  unfold Oper.wp
  simp [execOp, hop, resolve, invoke, builtin, hm, hx, hrun, Result.andThen]
  refine hK' _ _ (hK w' ⟨_, r1, hD.del key⟩ r2.grown ?_)
  rintro r n' f' todo cnt ⟨D', left, hrg, hD', hl⟩
  obtain ⟨w'', cnt', hrun', q1, q2, q3⟩ := hrg.drop law under_map (keyOf_LK hk) o.type
  rw [hrun] at hrun'
  obtain rfl : w' = w'' := by simpa using hrun'
  refine ⟨cnt', ⟨_, _, q1, hD'.del key, fun y hy => ?_⟩, q2⟩
  show (left (LK y) && !(LK y).sameKey (LK key)) = _
  rw [hl y hy]
  by_cases e : y = key
  · subst e; rw [WideAt.sameKey_self (LK_key _)]; simp
  · rw [sameKey_ne (fun q => e (LK_inj q))]; simp [e]
/-- range m -/
theorem wp_range (hg : o.guard = none) (mo : Operand) (hop : o.op = Op.range 95 mo) (m n : Nat) (f : ByteArray → Option Value) (hm : a.eval mo = .map (some m)) (h : MapIs w m n f)
    (hK : ∀ w' cnt, RangeIs w' m w.heap.size n f (fun k => (f k).isSome) cnt → w.grownBy w' none → w'.heap.size = w.heap.size + 1 → wpList Tryd.prog ops Q rest (a.put o.dst (.pointer (some ⟨w.heap.size, 0, none⟩))) w') :
    wpList Tryd.prog ops Q (o :: rest) a w := by
  obtain ⟨D, ho, hD⟩ := h
  refine wpList_range_own w hg mo _ hop 9 _ law under_map RP m n D hm ho fun w' h1 h2 h3 => hK w' _ ⟨D, _, h1, hD, fun key hk => ?_⟩ h2 h3
  cases hf : f key with
  | none => simp only [hf]; exact hD.none hk hf
  | some u => simp only [hf]; exact (hD.some hk hf).1
/-- The step. -/
theorem wp_next (hg : o.guard = none) (it : Operand) (hop : o.op = Op.next it false) (m r n : Nat) (f : ByteArray → Option Value) (todo : ByteArray → Bool) (cnt : Nat) (hit : a.eval it = .pointer (some ⟨r, 0, none⟩)) (h : RangeIs w m r n f todo cnt)
    (hDone : cnt = 0 → (∀ k : ByteArray, k.size ≤ maxLen → todo k = false) → wpList Tryd.prog ops Q rest (a.put o.dst (.tuple #[.bool false])) w)
    (hMore : ∀ (key : ByteArray) (v : Value) (w' : World) (cnt' : Nat), key.size ≤ maxLen → todo key = true → f key = some v → RangeIs w' m r n f (fun z => todo z && decide (z ≠ key)) cnt' → cnt' < cnt →
      w.grownBy w' (some r) → w'.heap.size = w.heap.size → (Instr.entry (.pointer (some ⟨r, 0, none⟩))).run Tryd.prog w' = .ok (.tuple #[.string key, v]) w' → wpList Tryd.prog ops Q rest (a.put o.dst (.tuple #[.bool true, .string key, v])) w') :
    wpList Tryd.prog ops Q (o :: rest) a w := by
  obtain ⟨D, left, hrg, hD, hl⟩ := h
  refine wpList_next_ranges (α := ByteArray) (β := Value) w hg it hop 9 law RP Value.string id (fun key kl hkey => by obtain ⟨s, e, _⟩ := keyOf_inv hkey; exact ⟨s, e⟩) (fun v y _ => ⟨v, rfl⟩) m r n D left cnt hit hrg
    (fun h0 h1 => hDone h0 (fun k hk => by rw [← hl k hk]; exact h1 _)) ?_
  intro key v kl y w' cnt' hkey hlk hv hat hrg' hlt hgr hsz hen
  obtain ⟨s, e, e2, hs⟩ := keyOf_inv hkey
  cases e
  subst e2
  refine hMore key v w' cnt' hs (by rw [← hl key hs]; exact hlk) ?_ ⟨D, _, hrg', hD, fun z hz => ?_⟩ hlt hgr hsz hen
  · cases hf : f key with
    | none =>
      have h0 := atKey_of_not_has (hD.none hs hf)
      have h1 := (h0 .nil).symm.trans (hat .nil)
      have h2 := (h0 (.agg [])).symm.trans (hat (.agg []))
      rw [← h1] at h2
      cases h2
    | some u =>
      obtain ⟨_, d, h2, h3⟩ := hD.some hs hf
      have h4 : y.1 = d := (hat .nil).symm.trans (h3 .nil)
      have h5 : RP v = some (d, y.2) := by rw [← h4]; exact hv
      rw [RP_inj h2 h5]
  · show (left (LK z) && !(LK z).sameKey (LK key)) = _
    rw [hl z hz]
    by_cases e : z = key
    · subst e; rw [WideAt.sameKey_self (LK_key _)]; simp
    · rw [sameKey_ne (fun q => e (LK_inj q))]; simp [e]
end

/-- A new map. -/
theorem MapIs.made (w : World) : MapIs (w.alloc (.map #[] 0)) w.heap.size 0 (fun _ => none) := by
  refine ⟨.map [], World.ownsMap_made w _ _ _, isMap_empty, fun key _ => ?_⟩
  rfl
end Go.Proofs.YtdjogkfgegopfaaDoor
namespace Go.Proofs.YtdjogkfgegopfaaDoor
open Go.RowKit Go.Maps Go.Proofs.YtdjogkfgegopfaaDoor.MFnPaMergeAgain Go.Proofs.YtdjogkfgegopfaaDoor.Pure
set_option linter.unusedVariables false

abbrev pv (b : Nat) : Value := .pointer (some ⟨b, 0, none⟩)
abbrev bv (b : UInt8) : Value := .int .u8 (b.toNat : Int)

def falseB : List UInt8 := [102, 97, 108, 115, 101]
def trueB : List UInt8 := [116, 114, 117, 101]
def nullB : List UInt8 := [110, 117, 108, 108]
/-- Begins as a number does. -/
def numHead (l : List UInt8) : Bool := match l with
  | c :: _ => c == 45 || (decide (48 ≤ c) && decide (c ≤ 57))
  | [] => false
/-- The raw text of a leaf. -/
def leafB (k : Int) (t : ByteArray) : Option (List UInt8) :=
  if k = 1 then (if t = ByteArray.empty then some falseB else none) else if k = 2 then (if t = ByteArray.empty then some trueB else none) else if k = 3 then (if numHead t.data.toList = true then some t.data.toList else none) else if k = 4 then some (34 :: t.data.toList ++ [34]) else none
theorem leafB_kind {k : Int} {t : ByteArray} {bs : List UInt8} (h : leafB k t = some bs) : k = 1 ∨ k = 2 ∨ k = 3 ∨ k = 4 := by
  unfold leafB at h
  split at h
  · exact .inl ‹_›
  · split at h
    · exact .inr (.inl ‹_›)
    · split at h
      · exact .inr (.inr (.inl ‹_›))
      · split at h
        · exact .inr (.inr (.inr ‹_›))
        · cases h

/-- At block r a RawMessage of the bytes bs. -/
def RawAt (w : World) (O : Nat → Prop) (r : Nat) (bs : List UInt8) : Prop :=
  ∃ c cap, O r ∧ O c ∧ w.heap[r]? = some (.cells #[.slice (some ⟨c, 0, none⟩) bs.length cap] 84 (0, 0)) ∧ bs.length ≤ cap ∧ cap ≤ maxLen ∧ (∃ cells fr, w.heap[c]? = some (.cells cells 5 fr)) ∧ ∀ j b, bs[j]? = some b → w.cell? ⟨c, j, none⟩ = some (bv b)
theorem RawAt.mono {w : World} {O O' : Nat → Prop} {r : Nat} {bs : List UInt8} (h : RawAt w O r bs) (hO : ∀ i, O i → O' i) : RawAt w O' r bs := by
  obtain ⟨c, cap, h1, h2, h3⟩ := h
  exact ⟨c, cap, hO _ h1, hO _ h2, h3⟩
theorem RawAt.move {w w1 : World} {O : Nat → Prop} {r : Nat} {bs : List UInt8} (h : RawAt w O r bs) (hm : ∀ i, i < w.heap.size → O i → w1.heap[i]? = w.heap[i]?) (hs : w.heap.size ≤ w1.heap.size) : RawAt w1 O r bs := by
  obtain ⟨c, cap, h1, h2, h3, h4, h5, ⟨cells, fr, h6c⟩, h7⟩ := h
  have hr : r < w.heap.size := (Array.getElem?_eq_some_iff.1 h3).1
  have h6 : c < w.heap.size := (Array.getElem?_eq_some_iff.1 h6c).1
  exact ⟨c, cap, h1, h2, (hm r hr h1).trans h3, h4, h5, ⟨cells, fr, (hm c h6 h2).trans h6c⟩, fun j b hj => (World.cell?_of_block (a := ⟨c, j, none⟩) (hm c h6 h2)).trans (h7 j b hj)⟩
theorem RawAt.bound {w : World} {O : Nat → Prop} {r : Nat} {bs : List UInt8} (h : RawAt w O r bs) : RawAt w (fun i => O i ∧ i < w.heap.size) r bs := by
  obtain ⟨c, cap, h1, h2, h3, h4, h5, ⟨cells, fr, h6⟩, h7⟩ := h
  exact ⟨c, cap, ⟨h1, (Array.getElem?_eq_some_iff.1 h3).1⟩, ⟨h2, (Array.getElem?_eq_some_iff.1 h6).1⟩, h3, h4, h5, ⟨cells, fr, h6⟩, h7⟩

/-- A step that writes cells of other types alone. -/
theorem RawAt.other {w w1 : World} {O O' W : Nat → Prop} {r : Nat} {bs : List UInt8} (h : RawAt w O r bs) (ho : Only W w w1) (hW : ∀ i, i < w.heap.size → W i → (∃ cells t fr, w.heap[i]? = some (.cells cells t fr) ∧ t ≠ 5 ∧ t ≠ 84) ∨ ∃ es c, w.heap[i]? = some (.map es c)) (hS : ∀ i, i < w.heap.size → O i → O' i) : RawAt w1 O' r bs := by
  obtain ⟨c, cap, h1, h2, h3, h4, h5, ⟨cells, fr, h6c⟩, h7⟩ := h
  have hr : r < w.heap.size := (Array.getElem?_eq_some_iff.1 h3).1
  have hc : c < w.heap.size := (Array.getElem?_eq_some_iff.1 h6c).1
  have er := ho.block r hr (fun q => by
    rcases hW r hr q with ⟨cs, t, f, e, _, n2⟩ | ⟨es, k, e⟩
    · rw [h3] at e; simp only [Option.some.injEq, Obj.cells.injEq] at e; exact n2 e.2.1.symm
    · rw [h3] at e; cases e)
  have ec := ho.block c hc (fun q => by
    rcases hW c hc q with ⟨cs, t, f, e, n1, _⟩ | ⟨es, k, e⟩
    · rw [h6c] at e; simp only [Option.some.injEq, Obj.cells.injEq] at e; exact n1 e.2.1.symm
    · rw [h6c] at e; cases e)
  exact ⟨c, cap, hS r hr h1, hS c hc h2, er.trans h3, h4, h5, ⟨cells, fr, ec.trans h6c⟩, fun j b hj => (World.cell?_of_block (a := ⟨c, j, none⟩) ec).trans (h7 j b hj)⟩

/-- The node at block b. -/
def NodeAt (w : World) (O : Nat → Prop) (b r : Nat) (d a : Value) (which : Int) : Prop := O b ∧ w.heap[b]? = some (.cells #[pv r, d, a, .int .i64 which] 80 (0, 0))
theorem NodeAt.lt {w : World} {O : Nat → Prop} {b r : Nat} {d a : Value} {k : Int} (h : NodeAt w O b r d a k) : b < w.heap.size := (Array.getElem?_eq_some_iff.1 h.2).1
theorem NodeAt.other {w w1 : World} {O O' W : Nat → Prop} {b r : Nat} {d a : Value} {k : Int} (h : NodeAt w O b r d a k) (ho : Only W w w1) (hW : ∀ i, i < w.heap.size → W i → (∃ cells t fr, w.heap[i]? = some (.cells cells t fr) ∧ t ≠ 80) ∨ ∃ es c, w.heap[i]? = some (.map es c)) (hS : ∀ i, i < w.heap.size → O i → O' i) : NodeAt w1 O' b r d a k :=
  ⟨hS b h.lt h.1, (ho.block b h.lt (fun q => by
    rcases hW b h.lt q with ⟨cs, t, f, e, n2⟩ | ⟨es, k, e⟩
    · rw [h.2] at e; simp only [Option.some.injEq, Obj.cells.injEq] at e; exact n2 e.2.1.symm
    · rw [h.2] at e; cases e)).trans h.2⟩
theorem NodeAt.move {w w1 : World} {O : Nat → Prop} {b r : Nat} {d a : Value} {k : Int} (h : NodeAt w O b r d a k) (hm : ∀ i, i < w.heap.size → O i → w1.heap[i]? = w.heap[i]?) : NodeAt w1 O b r d a k := ⟨h.1, (hm b h.lt h.1).trans h.2⟩

def inL : List ByteArray → ByteArray → Bool
  | [], _ => false
  | a :: l, k => decide (a = k) || inL l k
theorem inL_iff {l : List ByteArray} {k : ByteArray} : inL l k = true ↔ k ∈ l := by
  induction l with
  | nil => simp [inL]
  | cons a l ih =>
    simp only [inL, Bool.or_eq_true, decide_eq_true_eq, ih, List.mem_cons]
    exact ⟨fun h => h.imp Eq.symm id, fun h => h.imp Eq.symm id⟩
theorem inL_false {l : List ByteArray} {k : ByteArray} : inL l k = false ↔ k ∉ l := by
  rw [← inL_iff]; simp
/-- What stands at the names of a list. -/
def pick (ks : List ByteArray) (f : ByteArray → Value) : ByteArray → Option Value := fun k => if inL ks k = true then some (f k) else none
theorem pick_in {ks : List ByteArray} {f : ByteArray → Value} {k : ByteArray} (h : k ∈ ks) : pick ks f k = some (f k) := by unfold pick; rw [if_pos (inL_iff.2 h)]
theorem pick_out {ks : List ByteArray} {f : ByteArray → Value} {k : ByteArray} (h : k ∉ ks) : pick ks f k = none := by unfold pick; rw [if_neg (fun q => h (inL_iff.1 q))]
theorem own_move {w w1 : World} {base : Nat} {e : TypeId} {size n : Nat} {v : Value} {xs : List Value} (h : w.ownsRow base e size v n xs) (hm : ∀ k, v.ownBlock = some k → w1.heap[k]? = w.heap[k]?) : w1.ownsRow base e size v n xs := by
  obtain ⟨h1, h2⟩ := h
  refine ⟨h1, ?_⟩
  rcases h2 with h2 | ⟨g, cap, cur, rfl, hg, hh, r⟩
  · exact .inl h2
  · exact .inr ⟨g, cap, cur, rfl, hg, (hm g (by simp [Value.ownBlock])).trans hh, r⟩

/-- The container of an object: its names, in order, and what stands at each. -/
def DocAt (w : World) (O : Nat → Prop) (d m : Nat) (ks : List ByteArray) (f : ByteArray → Value) : Prop :=
  ∃ self kv opts, w.heap[d]? = some (.cells #[self, kv, .map (some m), opts] 97 (0, 0)) ∧ w.ownsRow 0 9 1 kv ks.length (ks.map Value.string) ∧ MapIs w m ks.length (pick ks f) ∧
    O d ∧ O m ∧ (∀ k, kv.ownBlock = some k → O k) ∧ ks.Nodup ∧ ∀ k, k ∈ ks → k.size ≤ maxLen
theorem DocAt.mono {w : World} {O O' : Nat → Prop} {d m : Nat} {ks : List ByteArray} {f : ByteArray → Value} (h : DocAt w O d m ks f) (hO : ∀ i, O i → O' i) : DocAt w O' d m ks f := by
  obtain ⟨self, kv, opts, h1, h2, h3, h4, h5, h6, h7, h8⟩ := h
  exact ⟨self, kv, opts, h1, h2, h3, hO _ h4, hO _ h5, fun k hk => hO _ (h6 k hk), h7, h8⟩
theorem DocAt.move {w w1 : World} {O : Nat → Prop} {d m : Nat} {ks : List ByteArray} {f : ByteArray → Value} (h : DocAt w O d m ks f) (hm : ∀ i, i < w.heap.size → O i → w1.heap[i]? = w.heap[i]?) : DocAt w1 O d m ks f := by
  obtain ⟨self, kv, opts, h1, h2, h3, h4, h5, h6, h7⟩ := h
  have hd : d < w.heap.size := (Array.getElem?_eq_some_iff.1 h1).1
  exact ⟨self, kv, opts, (hm d hd h4).trans h1, own_move h2 (fun k hk => hm k (h2.lt k hk).2 (h6 k hk)), h3.move (hm m h3.lt h5), h4, h5, h6, h7⟩
theorem DocAt.bound {w : World} {O : Nat → Prop} {d m : Nat} {ks : List ByteArray} {f : ByteArray → Value} (h : DocAt w O d m ks f) : DocAt w (fun i => O i ∧ i < w.heap.size) d m ks f := by
  obtain ⟨self, kv, opts, h1, h2, h3, h4, h5, h6, h7, h8⟩ := h
  exact ⟨self, kv, opts, h1, h2, h3, ⟨h4, (Array.getElem?_eq_some_iff.1 h1).1⟩, ⟨h5, h3.lt⟩, fun k hk => ⟨h6 k hk, (h2.lt k hk).2⟩, h7, h8⟩
theorem DocAt.ext {w : World} {O : Nat → Prop} {d m : Nat} {ks : List ByteArray} {f f' : ByteArray → Value} (h : DocAt w O d m ks f) (hf : ∀ k, k ∈ ks → f k = f' k) : DocAt w O d m ks f' := by
  obtain ⟨self, kv, opts, h1, h2, h3, h4, h5, h6, h7, h8⟩ := h
  refine ⟨self, kv, opts, h1, h2, ?_, h4, h5, h6, h7, h8⟩
  have : pick ks f' = pick ks f := by
    funext k
    by_cases hk : k ∈ ks
    · rw [pick_in hk, pick_in hk, hf k hk]
    · rw [pick_out hk, pick_out hk]
  rw [this]
  exact h3

/-- The container of an array. -/
def AryAt (w : World) (O : Nat → Prop) (a : Nat) (vs : List Value) : Prop :=
  ∃ self nv, w.heap[a]? = some (.cells #[self, nv] 100 (0, 0)) ∧ w.ownsRow 0 62 1 nv vs.length vs ∧ O a ∧ ∀ k, nv.ownBlock = some k → O k
theorem AryAt.mono {w : World} {O O' : Nat → Prop} {a : Nat} {vs : List Value} (h : AryAt w O a vs) (hO : ∀ i, O i → O' i) : AryAt w O' a vs := by
  obtain ⟨self, nv, h1, h2, h4, h6⟩ := h
  exact ⟨self, nv, h1, h2, hO _ h4, fun k hk => hO _ (h6 k hk)⟩
theorem AryAt.move {w w1 : World} {O : Nat → Prop} {a : Nat} {vs : List Value} (h : AryAt w O a vs) (hm : ∀ i, i < w.heap.size → O i → w1.heap[i]? = w.heap[i]?) : AryAt w1 O a vs := by
  obtain ⟨self, nv, h1, h2, h4, h6⟩ := h
  exact ⟨self, nv, (hm a (Array.getElem?_eq_some_iff.1 h1).1 h4).trans h1, own_move h2 (fun k hk => hm k (h2.lt k hk).2 (h6 k hk)), h4, h6⟩
theorem AryAt.bound {w : World} {O : Nat → Prop} {a : Nat} {vs : List Value} (h : AryAt w O a vs) : AryAt w (fun i => O i ∧ i < w.heap.size) a vs := by
  obtain ⟨self, nv, h1, h2, h4, h6⟩ := h
  exact ⟨self, nv, h1, h2, ⟨h4, (Array.getElem?_eq_some_iff.1 h1).1⟩, fun k hk => ⟨h6 k hk, (h2.lt k hk).2⟩⟩

/-- Value v is the tree T, over blocks of S; z: a null may be a node of its own. -/
inductive LN (z : Bool) (w : World) : Value → S25 → (Nat → Prop) → Prop
  | nul (S : Nat → Prop) : LN z w (.pointer none) ⟨0, ByteArray.empty, [], []⟩ S
  | raw0 (b r : Nat) (S : Nat → Prop) : z = true → NodeAt w S b r (.pointer none) (.pointer none) 0 → RawAt w S r nullB → LN z w (pv b) ⟨0, ByteArray.empty, [], []⟩ S
  | leaf (b r : Nat) (S : Nat → Prop) (k : Int) (t : ByteArray) (bs : List UInt8) : leafB k t = some bs → NodeAt w S b r (.pointer none) (.pointer none) 0 → RawAt w S r bs → LN z w (pv b) ⟨k, t, [], []⟩ S
  | arr (b r a : Nat) (S : Nat → Prop) (col : Nat → Option Nat) (vs : List Value) (ts : List S25) : NodeAt w (fun i => S i ∧ col i = none) b r (.pointer none) (pv a) 2 → RawAt w (fun i => S i ∧ col i = none) r [91, 93] → AryAt w (fun i => S i ∧ col i = none) a vs →
      vs.length = ts.length → (∀ i v t, vs[i]? = some v → ts[i]? = some t → LN z w v t (fun j => S j ∧ col j = some i)) → LN z w (pv b) ⟨5, ByteArray.empty, [], ts⟩ S
  | obj (b r d m : Nat) (S : Nat → Prop) (col : Nat → Option ByteArray) (ks : List ByteArray) (f : ByteArray → Value) (tr : ByteArray → S25) : NodeAt w (fun i => S i ∧ col i = none) b r (pv d) (.pointer none) 1 → RawAt w (fun i => S i ∧ col i = none) r [123, 125] →
      DocAt w (fun i => S i ∧ col i = none) d m ks f → (∀ k, k ∈ ks → LN z w (f k) (tr k) (fun j => S j ∧ col j = some k)) → LN z w (pv b) ⟨6, ByteArray.empty, ks, ks.map tr⟩ S

theorem LN.mono {z : Bool} {w : World} {v : Value} {T : S25} {S : Nat → Prop} (h : LN z w v T S) : ∀ {S' : Nat → Prop}, (∀ i, S i → S' i) → LN z w v T S' := by
  induction h with
  | nul S => intro S' _; exact .nul S'
  | raw0 b r S hz h1 h2 => intro S' hS; exact .raw0 b r S' hz ⟨hS _ h1.1, h1.2⟩ (h2.mono hS)
  | leaf b r S k t bs h0 h1 h2 => intro S' hS; exact .leaf b r S' k t bs h0 ⟨hS _ h1.1, h1.2⟩ (h2.mono hS)
  | arr b r a S col vs ts h1 h2 h3 h4 h5 ih =>
    intro S' hS
    have hO : ∀ i, (S i ∧ col i = none) → (S' i ∧ col i = none) := fun i hi => ⟨hS i hi.1, hi.2⟩
    exact .arr b r a S' col vs ts ⟨hO _ h1.1, h1.2⟩ (h2.mono hO) (h3.mono hO) h4 (fun i v t hv ht => ih i v t hv ht (fun j hj => ⟨hS j hj.1, hj.2⟩))
  | obj b r d m S col ks f tr h1 h2 h3 h5 ih =>
    intro S' hS
    have hO : ∀ i, (S i ∧ col i = none) → (S' i ∧ col i = none) := fun i hi => ⟨hS i hi.1, hi.2⟩
    exact .obj b r d m S' col ks f tr ⟨hO _ h1.1, h1.2⟩ (h2.mono hO) (h3.mono hO) (fun k hk => ih k hk (fun j hj => ⟨hS j hj.1, hj.2⟩))

theorem LN.move {z : Bool} {w w1 : World} {v : Value} {T : S25} {S : Nat → Prop} (h : LN z w v T S) (hs : w.heap.size ≤ w1.heap.size) : (∀ i, i < w.heap.size → S i → w1.heap[i]? = w.heap[i]?) → LN z w1 v T S := by
  induction h with
  | nul S => intro _; exact .nul S
  | raw0 b r S hz h1 h2 => intro hm; exact .raw0 b r S hz (h1.move hm) (h2.move hm hs)
  | leaf b r S k t bs h0 h1 h2 => intro hm; exact .leaf b r S k t bs h0 (h1.move hm) (h2.move hm hs)
  | arr b r a S col vs ts h1 h2 h3 h4 h5 ih =>
    intro hm
    have hO : ∀ i, i < w.heap.size → (S i ∧ col i = none) → w1.heap[i]? = w.heap[i]? := fun i hi ho => hm i hi ho.1
    exact .arr b r a S col vs ts (h1.move hO) (h2.move hO hs) (h3.move hO) h4 (fun i v t hv ht => ih i v t hv ht (fun j hj ho => hm j hj ho.1))
  | obj b r d m S col ks f tr h1 h2 h3 h5 ih =>
    intro hm
    have hO : ∀ i, i < w.heap.size → (S i ∧ col i = none) → w1.heap[i]? = w.heap[i]? := fun i hi ho => hm i hi ho.1
    exact .obj b r d m S col ks f tr (h1.move hO) (h2.move hO hs) (h3.move hO) (fun k hk => ih k hk (fun j hj ho => hm j hj ho.1))

theorem LN.bound {z : Bool} {w : World} {v : Value} {T : S25} {S : Nat → Prop} (h : LN z w v T S) : LN z w v T (fun i => S i ∧ i < w.heap.size) := by
  induction h with
  | nul S => exact .nul _
  | raw0 b r S hz h1 h2 => exact .raw0 b r _ hz ⟨⟨h1.1, h1.lt⟩, h1.2⟩ h2.bound
  | leaf b r S k t bs h0 h1 h2 => exact .leaf b r _ k t bs h0 ⟨⟨h1.1, h1.lt⟩, h1.2⟩ h2.bound
  | arr b r a S col vs ts h1 h2 h3 h4 h5 ih =>
    have hO : ∀ i, ((S i ∧ col i = none) ∧ i < w.heap.size) → ((S i ∧ i < w.heap.size) ∧ col i = none) := fun i hi => ⟨⟨hi.1.1, hi.2⟩, hi.1.2⟩
    exact .arr b r a _ col vs ts ⟨⟨⟨h1.1.1, h1.lt⟩, h1.1.2⟩, h1.2⟩ (h2.bound.mono hO) (h3.bound.mono hO) h4 (fun i v t hv ht => (ih i v t hv ht).mono (fun j hj => ⟨⟨hj.1.1, hj.2⟩, hj.1.2⟩))
  | obj b r d m S col ks f tr h1 h2 h3 h5 ih =>
    have hO : ∀ i, ((S i ∧ col i = none) ∧ i < w.heap.size) → ((S i ∧ i < w.heap.size) ∧ col i = none) := fun i hi => ⟨⟨hi.1.1, hi.2⟩, hi.1.2⟩
    exact .obj b r d m _ col ks f tr ⟨⟨⟨h1.1.1, h1.lt⟩, h1.1.2⟩, h1.2⟩ (h2.bound.mono hO) (h3.bound.mono hO) (fun k hk => (ih k hk).mono (fun j hj => ⟨⟨hj.1.1, hj.2⟩, hj.1.2⟩))

/-- A step that writes none of its blocks; its set may be named anew. -/
theorem LN.step {z : Bool} {w w1 : World} {v : Value} {T : S25} {S S' O : Nat → Prop} (h : LN z w v T S) (ho : Only O w w1) (hn : ∀ i, i < w.heap.size → S i → ¬ O i) (hS : ∀ i, i < w.heap.size → S i → S' i) : LN z w1 v T S' :=
  ((h.bound).move ho.size (fun i hi hs => ho.block i hi (hn i hi hs.1))).mono (fun i hi => hS i hi.2 hi.1)
theorem LN.rp {z : Bool} {w : World} {v : Value} {T : S25} {S : Nat → Prop} (h : LN z w v T S) : (RP v).isSome = true := by
  cases h <;> rfl
/-- The three blocks of an object's container alone. -/
theorem DocAt.tight {w : World} {O : Nat → Prop} {d m : Nat} {ks : List ByteArray} {f : ByteArray → Value} (h : DocAt w O d m ks f) : ∃ O', DocAt w O' d m ks f ∧ (∀ i, O' i → O i) ∧ ∀ i, O' i → (∃ cells t fr, w.heap[i]? = some (.cells cells t fr) ∧ (t = 97 ∨ t = 9)) ∨ ∃ es c, w.heap[i]? = some (.map es c) := by
  obtain ⟨self, kv, opts, h1, h2, h3, h4, h5, h6, h7, h8⟩ := h
  refine ⟨fun i => i = d ∨ i = m ∨ kv.ownBlock = some i, ⟨self, kv, opts, h1, h2, h3, .inl rfl, .inr (.inl rfl), fun k hk => .inr (.inr hk), h7, h8⟩, ?_, ?_⟩
  · rintro i (rfl | rfl | q)
    · exact h4
    · exact h5
    · exact h6 i q
  · rintro i (rfl | rfl | q)
    · exact .inl ⟨_, _, _, h1, .inl rfl⟩
    · obtain ⟨D, ⟨es, clock, hb, _⟩, _⟩ := h3
      exact .inr ⟨es, clock, hb⟩
    · rcases h2.2 with ⟨rfl, _⟩ | ⟨g, cap, cur, rfl, _, hg, _⟩
      · simp [Value.ownBlock] at q
      · simp only [Value.ownBlock, Option.some.injEq] at q
        subst q
        exact .inl ⟨_, _, _, hg, .inr rfl⟩
theorem LN.ptr {z : Bool} {w : World} {v : Value} {T : S25} {S : Nat → Prop} (h : LN z w v T S) : ∃ p, v = .pointer p := by
  cases h <;> exact ⟨_, rfl⟩
theorem DocAt.step {w w1 : World} {O O' W : Nat → Prop} {d m : Nat} {ks : List ByteArray} {f : ByteArray → Value} (h : DocAt w O d m ks f) (ho : Only W w w1) (hn : ∀ i, i < w.heap.size → O i → ¬ W i) (hS : ∀ i, i < w.heap.size → O i → O' i) : DocAt w1 O' d m ks f :=
  ((h.bound).move (fun i hi hs => ho.block i hi (hn i hi hs.1))).mono (fun i hi => hS i hi.2 hi.1)
theorem AryAt.step {w w1 : World} {O O' W : Nat → Prop} {a : Nat} {vs : List Value} (h : AryAt w O a vs) (ho : Only W w w1) (hn : ∀ i, i < w.heap.size → O i → ¬ W i) (hS : ∀ i, i < w.heap.size → O i → O' i) : AryAt w1 O' a vs :=
  ((h.bound).move (fun i hi hs => ho.block i hi (hn i hi hs.1))).mono (fun i hi => hS i hi.2 hi.1)
theorem RawAt.step {w w1 : World} {O O' W : Nat → Prop} {r : Nat} {bs : List UInt8} (h : RawAt w O r bs) (ho : Only W w w1) (hn : ∀ i, i < w.heap.size → O i → ¬ W i) (hS : ∀ i, i < w.heap.size → O i → O' i) : RawAt w1 O' r bs :=
  ((h.bound).move (fun i hi hs => ho.block i hi (hn i hi hs.1)) ho.size).mono (fun i hi => hS i hi.2 hi.1)
theorem NodeAt.step {w w1 : World} {O O' W : Nat → Prop} {b r : Nat} {d a : Value} {k : Int} (h : NodeAt w O b r d a k) (ho : Only W w w1) (hn : ∀ i, i < w.heap.size → O i → ¬ W i) (hS : ∀ i, i < w.heap.size → O i → O' i) : NodeAt w1 O' b r d a k :=
  ⟨hS _ h.lt h.1, (ho.block b h.lt (hn b h.lt h.1)).trans h.2⟩
end Go.Proofs.YtdjogkfgegopfaaDoor
namespace Go.Proofs.YtdjogkfgegopfaaDoor
open Go.RowKit Go.Maps Go.Proofs.YtdjogkfgegopfaaDoor.MFnPaMergeAgain Go.Proofs.YtdjogkfgegopfaaDoor.Pure Go.Proofs.YtdjogkfgegopfaaDoorW.PrintWords Go.Proofs.YtdjogkfgegopfaaDoorW.PrintLast
set_option linter.unusedVariables false

/-- The errors' variables hold errors; they lie below B. -/
def GLp (B : Nat) (w : World) : Prop := B ≤ w.heap.size ∧ 0 < B ∧ 2 < B ∧ (∃ a, w.cell? ⟨0, 0, none⟩ = some (.iface 115 a)) ∧ ∃ a, w.cell? ⟨2, 0, none⟩ = some (.iface 115 a)
theorem GLp.keep {B : Nat} {w w1 : World} {O : Nat → Prop} (h : GLp B w) (ho : Only O w w1) (hO : ∀ i, O i → B ≤ i) : GLp B w1 := by
  obtain ⟨h0, h1, h2, ⟨a, ha⟩, b, hb⟩ := h
  have hs := ho.size
  refine ⟨by omega, h1, h2, ⟨a, ?_⟩, b, ?_⟩
  · exact (World.cell?_of_block (a := ⟨0, 0, none⟩) (ho.block 0 (by omega) (fun q => by have := hO 0 q; omega))).trans ha
  · exact (World.cell?_of_block (a := ⟨2, 0, none⟩) (ho.block 2 (by omega) (fun q => by have := hO 2 q; omega))).trans hb

theorem newNode_any (v : Option Addr) (w : World) : Calls Tryd.prog 65 #[.pointer v] w fun e w' => e = .returned (pv w.heap.size) ∧ w' = w.alloc (.cells #[.pointer v, .pointer none, .pointer none, .int .i64 0] 80) := by
  go_enter Tryd.func65, Tryd.ntmps65
  go_wp2
  go_outline
  go_ret
  exact ⟨rfl, rfl⟩

theorem raw_conv (w : World) (s : ByteArray) (hs : s.size ≤ maxLen) : ∃ cap W1, (convert 9 84 (.string s)).run Tryd.prog w = .ok (.slice (some ⟨w.heap.size, 0, none⟩) s.size cap) W1 ∧ W1.heap.size = w.heap.size + 1 ∧
    Hid (RawAt (W1.alloc (.cells #[.slice (some ⟨w.heap.size, 0, none⟩) s.size cap] 84)) (fun i => w.heap.size ≤ i) (w.heap.size + 1) s.data.toList ∧ Below w.heap.size w (W1.alloc (.cells #[.slice (some ⟨w.heap.size, 0, none⟩) s.size cap] 84))) := by
  have hsz := Lib.bytesWorld_size w 5 s
  refine ⟨_, _, Lib.run_convert_string_bytes w 9 84 5 s (u := .string) Tryd.underlying9 Tryd.underlying84 Tryd.underlying5, hsz, Lib.hid ?_⟩
  have hl : s.data.toList.length = s.size := by rw [Array.length_toList]; rfl
  have hnew := heap_alloc_new (Lib.bytesWorld w 5 s) (.cells #[.slice (some ⟨w.heap.size, 0, none⟩) s.size (grownCap w s.size 0 5)] 84)
  rw [hsz] at hnew
  refine ⟨⟨w.heap.size, grownCap w s.size 0 5, by omega, Nat.le_refl _, by rw [hl]; exact hnew, by rw [hl]; exact grownCap_ge w s.size 0 5, grownCap_le_maxLen w s.size 0 5 hs, ?_, fun j b hj => ?_⟩, ?_⟩
  · exact ⟨_, _, (Below.heap_alloc (Lib.bytesWorld w 5 s) _ w.heap.size (by omega)).trans (Lib.bytesWorld_at_new w 5 s)⟩
  · have hjl : j < s.size := by
      rcases Nat.lt_or_ge j s.size with h | h
      · exact h
      · rw [List.getElem?_eq_none (by omega)] at hj; cases hj
    rw [World.cell?_of_block (a := ⟨w.heap.size, j, none⟩) (Below.heap_alloc (Lib.bytesWorld w 5 s) _ w.heap.size (by omega)), Lib.bytesWorld_cell w 5 s j hjl]
    simp [List.getD, hj, bv]
  · have hb : Below w.heap.size w (Lib.bytesWorld w 5 s) := ⟨rfl, rfl, rfl, by omega, fun k hk => Lib.bytesWorld_at_old w 5 s k hk⟩
    exact hb.alloc (by omega) _

def RawPost (w : World) (bs : List UInt8) : Ending → World → Prop := fun e w' => e = .returned (pv (w.heap.size + 1)) ∧ w'.heap.size = w.heap.size + 2 ∧ RawAt w' (fun i => w.heap.size ≤ i) (w.heap.size + 1) bs ∧ Below w.heap.size w w'
theorem zzRaw_any (s : ByteArray) (w : World) (hs : s.size ≤ maxLen) : Calls Tryd.prog 66 #[.string s] w (RawPost w s.data.toList) := by
  obtain ⟨cap, W1, hrun, hz, hp⟩ := raw_conv w s hs
  have HZ := Lib.hid hz
  clear hs hz
  go_enter Tryd.func66, Tryd.ntmps66
  go_wp2
  go_ret
  exact ⟨by rw [HZ.out]; rfl, by have := HZ.out; simp; omega, hp.out.1, hp.out.2⟩

def New (w : World) : Nat → Prop := fun i => w.heap.size ≤ i
theorem heap_two {w : World} (o1 o2 o3 : Obj) : ((w.alloc o1).alloc o2).alloc o3 = ((w.alloc o1).alloc o2).alloc o3 ∧ (((w.alloc o1).alloc o2).alloc o3).heap[w.heap.size]? = some o1 ∧ (((w.alloc o1).alloc o2).alloc o3).heap[w.heap.size + 1]? = some o2 ∧ (((w.alloc o1).alloc o2).alloc o3).heap[w.heap.size + 1 + 1]? = some o3 := by
  have h1 := heap_alloc_new w o1
  have h2 := heap_alloc_new (w.alloc o1) o2
  have h3 := heap_alloc_new ((w.alloc o1).alloc o2) o3
  have s1 : (w.alloc o1).heap.size = w.heap.size + 1 := by simp
  have s2 : ((w.alloc o1).alloc o2).heap.size = w.heap.size + 1 + 1 := by simp
  rw [s1] at h2
  rw [s2] at h3
  exact ⟨rfl, (Below.heap_alloc _ _ _ (by omega)).trans ((Below.heap_alloc _ _ _ (by omega)).trans h1), (Below.heap_alloc _ _ _ (by omega)).trans h2, h3⟩
theorem below_three {w w1 : World} (h : Below w.heap.size w w1) (o1 o2 o3 : Obj) : Below w.heap.size w (((w1.alloc o1).alloc o2).alloc o3) := ((h.alloc h.size o1).alloc (by have := h.size; simp; omega) o2).alloc (by have := h.size; simp; omega) o3
/-- A new node of an empty array. -/
def ArrPost (w : World) : Ending → World → Prop := fun e w' => ∃ b r a, e = .returned (pv b) ∧ NodeAt w' (New w) b r (.pointer none) (pv a) 2 ∧ RawAt w' (New w) r [91, 93] ∧ AryAt w' (New w) a [] ∧ Below w.heap.size w w'
theorem zzEmptyArray_any (w : World) : Calls Tryd.prog 67 #[] w (ArrPost w) := by
  have C := Lib.hid (zzRaw_any ⟨#[91, 93]⟩ w (by decide))
  go_enter Tryd.func67, Tryd.ntmps67
  go_wp2_with (first | (go_at_call 66; refine C.out.mono ?_; rintro e w1 ⟨rfl, hz, hr, hb⟩; have HZ := Lib.hid hz; have HR := Lib.hid hr; have HB := Lib.hid hb; clear hz hr hb C) | fail)
  go_ret
  have hz := HZ.out
  obtain ⟨_, a1, a2, a3⟩ := heap_two (w := w1) (.cells #[] 62) (.cells #[.pointer none, .slice (some ⟨w1.heap.size, 0, none⟩) 0 0] 100) (.cells #[pv (w.heap.size + 1), .pointer none, .pointer (some ⟨w1.heap.size + 1, 0, none⟩), .int .i64 2] 80)
  refine ⟨w1.heap.size + 1 + 1, w.heap.size + 1, w1.heap.size + 1, rfl, ⟨by unfold New; omega, a3⟩, HR.out.move (fun i hi _ => ?_) (by simp; omega), ⟨_, _, a2, ⟨by simp, .inr ⟨w1.heap.size, 0, _, rfl, Nat.zero_le _, a1, Nat.le_refl _, Nat.zero_le _, rfl, rfl⟩⟩, by unfold New; omega, fun k hk => ?_⟩, below_three HB.out _ _ _⟩
  · exact (Below.heap_alloc _ _ _ (by simp; omega)).trans ((Below.heap_alloc _ _ _ (by simp; omega)).trans (Below.heap_alloc _ _ _ hi))
  · simp only [Value.ownBlock, Option.some.injEq] at hk
    unfold New
    omega
/-- A new node of an empty object. -/
def ObjPost (w : World) (opts : Value) : Ending → World → Prop := fun e w' => ∃ b r d m, e = .returned (pv b) ∧ NodeAt w' (New w) b r (pv d) (.pointer none) 1 ∧ RawAt w' (New w) r [123, 125] ∧ (∀ f, DocAt w' (New w) d m [] f) ∧ Below w.heap.size w w' ∧ w'.heap[d]? = some (.cells #[.pointer none, .slice none 0 0, .map (some m), opts] 97 (0, 0))
theorem zzEmptyObject_any (w : World) : Calls Tryd.prog 68 #[] w (ObjPost w (.pointer none)) := by
  have C := Lib.hid (zzRaw_any ⟨#[123, 125]⟩ w (by decide))
  have hmm := @run_makeMap Tryd.prog
  go_enter Tryd.func68, Tryd.ntmps68
  go_wp2_with (first | (go_at_call 66; refine C.out.mono ?_; rintro e w1 ⟨rfl, hz, hr, hb⟩; have HZ := Lib.hid hz; have HR := Lib.hid hr; have HB := Lib.hid hb; clear hz hr hb C) | fail)
  go_ret
  have hz := HZ.out
  obtain ⟨_, a1, a2, a3⟩ := heap_two (w := w1) (.map #[] 0) (.cells #[.pointer none, .slice none 0 0, .map (some w1.heap.size), .pointer none] 97) (.cells #[pv (w.heap.size + 1), .pointer (some ⟨w1.heap.size + 1, 0, none⟩), .pointer none, .int .i64 1] 80)
  have hm := MapIs.made w1
  refine ⟨w1.heap.size + 1 + 1, w.heap.size + 1, w1.heap.size + 1, w1.heap.size, rfl, ⟨by unfold New; omega, a3⟩, HR.out.move (fun i hi _ => ?_) (by simp; omega), fun f => ⟨_, _, _, a2, own_nil _ _ _ _, hm.move (a1.trans (heap_alloc_new w1 _).symm), by unfold New; omega, by unfold New; omega, fun k hk => by simp [Value.ownBlock] at hk, List.nodup_nil, fun k hk => by simp at hk⟩, below_three HB.out _ _ _, a2⟩
  exact (Below.heap_alloc _ _ _ (by simp; omega)).trans ((Below.heap_alloc _ _ _ (by simp; omega)).trans (Below.heap_alloc _ _ _ hi))
set_option maxRecDepth 100000 in
/-- The first byte of a raw text that does not begin with a blank. -/
theorem nextByte_any (w : World) (O : Nat → Prop) (b r : Nat) (d a : Value) (k : Int) (c : UInt8) (bs : List UInt8) (hn : NodeAt w O b r d a k) (hr : RawAt w O r (c :: bs)) (hs : jsonpatch_zzSpace.f (c.toNat : Int) = some false) :
    Calls Tryd.prog 59 #[pv b] w fun e w' => e = .returned (.int .u8 (c.toNat : Int)) ∧ Below w.heap.size w w' := by
  obtain ⟨g, cap, h1, h2, h3, h4, h5, ⟨cl, fr, h6c⟩, h7⟩ := hr
  have h6 : g < w.heap.size := (Array.getElem?_eq_some_iff.1 h6c).1
  clear h6c
  have c0 := cell_of_row _ b 0 _ _ _ hn.2
  have c1 := cell_of_row _ r 0 _ _ _ h3
  have c2 := h7 0 c rfl
  have HC := fun W => Lib.hid (jsonpatch_zzSpace.calls (c.toNat : Int) false W hs)
  have z1 : 0 ≤ (c.toNat : Int) := by omega
  have z2 : (c.toNat : Int) ≤ 255 := by have := c.toNat_lt; omega
  have z3 : (0 : Int) < ((bs.length + 1 : Nat) : Int) := by omega
  simp only [List.length_cons] at c1
  have HG := Lib.hid h6
  clear h7 hs h3 h4 h5 h6 h1 h2 hn
  obtain ⟨n, hn⟩ : ∃ n, bs.length + 1 = n := ⟨_, rfl⟩
  rw [hn] at c1 z3
  clear hn
  obtain ⟨x, hx⟩ : ∃ x : Int, (c.toNat : Int) = x := ⟨_, rfl⟩
  simp only [bv] at c2
  rw [hx] at c2 z1 z2 HC
  rw [hx]
  clear hx
  go_enter Tryd.func59, Tryd.ntmps59
  go_wp2
  go_loopw [3, 10, 11, 12, 13, 14, 15, 16] (fun v _ _ _ _ _ _ _ wr => v = .slice (some ⟨g, 0, none⟩) n cap ∧ w = wr) (fun _ _ _ _ _ _ _ _ _ => 0)
  case atStart => exact ⟨rfl, rfl⟩
  case round =>
    obtain ⟨rfl, rfl⟩ := hrel
    clear c0
    go_wp2_with (first | (go_at_call 71; refine (HC _).out.mono ?_; rintro e w1 ⟨rfl, hd⟩; have HD := Lib.hid hd; have c9 := (hd.below.cell (p := ⟨g, 0, none⟩) HG.out).trans c2; clear hd) | fail)
    go_ret
    exact ⟨rfl, HD.out.below⟩
/-- The error that a node gives that is no object (no array). -/
def ErrPost (w : World) : Ending → World → Prop := fun e w' => ∃ a, e = .returned (.tuple #[.pointer none, .iface 115 a]) ∧ Below w.heap.size w w'
set_option maxRecDepth 100000 in
theorem intoDoc_yes (w : World) (O : Nat → Prop) (b r d : Nat) (a opts : Value) (hn : NodeAt w O b r (pv d) a 1) :
    Calls Tryd.prog 50 #[pv b, opts] w fun e w' => e = .returned (.tuple #[pv d, .nilIface]) ∧ w = w' := by
  have c1 := cell_of_row _ b 1 _ _ _ hn.2
  have c3 := cell_of_row _ b 3 _ _ _ hn.2
  clear hn
  go_enter Tryd.func50, Tryd.ntmps50
  go_wp2
  go_ret2
  exact ⟨rfl, rfl⟩
set_option maxRecDepth 100000 in
theorem intoDoc_no (B : Nat) (w : World) (O : Nat → Prop) (b r : Nat) (d a opts : Value) (k : Int) (hk : k ≠ 1) (c : UInt8) (bs : List UInt8) (hn : NodeAt w O b r d a k) (hr : RawAt w O r (c :: bs)) (hc : (c.toNat : Int) ≠ 123) (hs : jsonpatch_zzSpace.f (c.toNat : Int) = some false) (hG : GLp B w) :
    Calls Tryd.prog 50 #[pv b, opts] w (ErrPost w) := by
  have C := Lib.hid (nextByte_any w O b r d a k c bs hn hr hs)
  have c0 := cell_of_row _ b 0 _ _ _ hn.2
  have c3 := cell_of_row _ b 3 _ _ _ hn.2
  obtain ⟨hB, g0, g1, ⟨x0, hx0⟩, -⟩ := hG
  have k1 : (k == 1) = false := by simpa using hk
  have cb : ((c.toNat : Int) != 123) = true := by simpa using hc
  have HX : ∀ w1, Below w.heap.size w w1 → w1.cell? ⟨0, 0, none⟩ = some (.iface 115 x0) := fun w1 h => (h.cell (p := ⟨0, 0, none⟩) (by show 0 < _; omega)).trans hx0
  have HX := Lib.hid HX
  clear hn hr hs hc hk hx0 hB g0 g1
  go_enter Tryd.func50, Tryd.ntmps50
  go_wp2_with (first | (go_at_call 59; refine C.out.mono ?_; rintro e w1 ⟨rfl, hb⟩; have hx := HX.out _ hb; have HB := Lib.hid hb; clear hb C) | fail)
  go_quiet (fail)
  go_wp2
  go_ret2
  exact ⟨x0, rfl, below_drewN' HB.out _⟩
where below_drewN' {B : Nat} {w W : World} (h : Below B w W) (m : Nat) : Below B w (W.drewN m) := ⟨h.os, h.tape, h.output, h.size, h.block⟩
set_option maxRecDepth 100000 in
theorem intoAry_yes (w : World) (O : Nat → Prop) (b r a : Nat) (d : Value) (hn : NodeAt w O b r d (pv a) 2) :
    Calls Tryd.prog 61 #[pv b] w fun e w' => e = .returned (.tuple #[pv a, .nilIface]) ∧ w = w' := by
  have c1 := cell_of_row _ b 2 _ _ _ hn.2
  have c3 := cell_of_row _ b 3 _ _ _ hn.2
  clear hn
  go_enter Tryd.func61, Tryd.ntmps61
  go_wp2
  go_ret2
  exact ⟨rfl, rfl⟩
set_option maxRecDepth 100000 in
theorem intoAry_no (B : Nat) (w : World) (O : Nat → Prop) (b r : Nat) (d a : Value) (k : Int) (hk : k ≠ 2) (hn : NodeAt w O b r d a k) (hG : GLp B w) :
    Calls Tryd.prog 61 #[pv b] w (ErrPost w) := by
  have c0 := cell_of_row _ b 0 _ _ _ hn.2
  have c3 := cell_of_row _ b 3 _ _ _ hn.2
  obtain ⟨hB, g0, g1, ⟨x0, hx0⟩, -⟩ := hG
  have k1 : (k == 2) = false := by simpa using hk
  clear hn hk hB g0 g1
  go_enter Tryd.func61, Tryd.ntmps61
  go_wp2
  go_quiet (fail)
  go_wp2
  go_ret2
  exact ⟨x0, rfl, intoDoc_no.below_drewN' (Below.refl _ _) _⟩
end Go.Proofs.YtdjogkfgegopfaaDoor
namespace Go.Proofs.YtdjogkfgegopfaaDoor
open Go.RowKit Go.Maps Go.Proofs.YtdjogkfgegopfaaDoor.MFnPaMergeAgain Go.Proofs.YtdjogkfgegopfaaDoor.Pure Go.Proofs.YtdjogkfgegopfaaDoorW.PrintWords Go.Proofs.YtdjogkfgegopfaaDoorW.PrintLast
set_option linter.unusedVariables false

def setK (ks : List ByteArray) (key : ByteArray) : List ByteArray := if inL ks key = true then ks else ks ++ [key]
def setF (f : ByteArray → Value) (key : ByteArray) (v : Value) : ByteArray → Value := fun k => if k = key then v else f k
theorem setK_mem {ks : List ByteArray} {key k : ByteArray} : k ∈ setK ks key ↔ k ∈ ks ∨ k = key := by
  unfold setK
  split
  · rename_i h
    have h := inL_iff.1 h
    exact ⟨.inl, fun q => q.elim id (fun e => e ▸ h)⟩
  · simp
theorem setK_nodup {ks : List ByteArray} {key : ByteArray} (h : ks.Nodup) : (setK ks key).Nodup := by
  unfold setK
  split
  · exact h
  · rename_i hn
    have hn : key ∉ ks := fun q => hn (inL_iff.2 q)
    rw [List.nodup_append]
    exact ⟨h, by simp, fun a ha b hb => by simp at hb; subst hb; rintro rfl; exact hn ha⟩
theorem setK_len {ks : List ByteArray} {key : ByteArray} : (setK ks key).length ≤ ks.length + 1 := by
  unfold setK
  split <;> simp
theorem pick_set {ks : List ByteArray} {f : ByteArray → Value} {key : ByteArray} {v : Value} : upd (pick ks f) key (some v) = pick (setK ks key) (setF f key v) := by
  funext k
  unfold upd
  by_cases e : k = key
  · subst e
    rw [if_pos rfl, pick_in (setK_mem.2 (.inr rfl))]
    simp [setF]
  · rw [if_neg e]
    by_cases hk : k ∈ ks
    · rw [pick_in hk, pick_in (setK_mem.2 (.inl hk))]
      simp [setF, e]
    · rw [pick_out hk, pick_out (fun q => (setK_mem.1 q).elim hk e)]

/-- Where a name first stands. -/
theorem first_at {ks : List ByteArray} {key : ByteArray} (h : key ∈ ks) : ∃ j, ∃ hj : j < ks.length, ks[j] = key ∧ ∀ i (hi : i < ks.length), i < j → ks[i] ≠ key := by
  induction ks with
  | nil => simp at h
  | cons a ks ih =>
    by_cases e : a = key
    · exact ⟨0, by simp, by simpa using e, fun i _ hi => absurd hi (Nat.not_lt_zero _)⟩
    · obtain ⟨j, hj, h1, h2⟩ := ih (by simpa [Ne.symm e] using h)
      refine ⟨j + 1, by simp; omega, by simpa using h1, fun i hi hij => ?_⟩
      cases i with
      | zero => simpa using e
      | succ i => simpa using h2 i (by simpa using hi) (by omega)

/-- The cells of a row of names. -/
theorem row_cell {w : World} {kv : Value} {ks : List ByteArray} (h : w.ownsRow 0 9 1 kv ks.length (ks.map Value.string)) (h0 : 0 < ks.length) : ∃ g cap, kv = .slice (some ⟨g, 0, none⟩) ks.length cap ∧ ∀ i (hi : i < ks.length), w.cell? ⟨g, i, none⟩ = some (.string ks[i]) := by
  have h' := h
  rcases h.2 with ⟨_, hz⟩ | ⟨g, cap, cur, rfl, hb, hg, hle, hm, hsz, ht⟩
  · omega
  · refine ⟨g, cap, rfl, fun i hi => ?_⟩
    have hh := h'.cells (g := g) rfl i (.string ks[i]) (by rw [List.getElem?_map, List.getElem?_eq_getElem hi]; rfl)
    have hadd : (⟨g, 0, none⟩ : Addr).add i = ⟨g, i, none⟩ := by unfold Addr.add; split <;> simp_all
    rwa [hadd] at hh
theorem infoS : (Tryd.prog.info? 9).map (fun i => (i.zero, i.size, i.bytes)) = some (some (.string ⟨#[]⟩), 1, 16) := by kernel_rfl

theorem map_nn (m : Nat) (w : World) : (binOp .eql 95 (.map (some m)) (.map none)).run Tryd.prog w = .ok (.bool false) w := Go.run_eql_map_nil w _ _ _ (some m) under_map

def SetPost (w : World) (O : Nat → Prop) (d m : Nat) (ks : List ByteArray) (f : ByteArray → Value) : Ending → World → Prop := fun e w' => e = .returned .nilIface ∧ DocAt w' (fun i => O i ∨ w.heap.size ≤ i) d m ks f ∧ Only O w w'

set_option maxRecDepth 100000 in
set_option maxHeartbeats 1000000 in
theorem set_in (w : World) (O : Nat → Prop) (d m : Nat) (ks : List ByteArray) (f : ByteArray → Value) (key : ByteArray) (v opts : Value) (h : DocAt w O d m ks f) (hk : key ∈ ks) (hv : (RP v).isSome = true) (hl : ks.length ≤ 1099511627776) :
    Calls Tryd.prog 64 #[pv d, .string key, v, opts] w (SetPost w O d m ks (setF f key v)) := by
  have hks : setK ks key = ks := by unfold setK; rw [if_pos (inL_iff.2 hk)]
  obtain ⟨j, hj, hj1, hj2⟩ := first_at hk
  obtain ⟨self, kv, op, h1, h2, h3, h4, h5, h6, h7, h8⟩ := h
  obtain ⟨g, cap, rfl, hc⟩ := row_cell h2 (by omega)
  have ck := h8 key hk
  have c1 := cell_of_row _ d 1 _ _ _ h1
  have c2 := cell_of_row _ d 2 _ _ _ h1
  have HP : ∀ w', MapIs w' m (ks.length + 1) (upd (pick ks f) key (some v)) → w.grownBy w' (some m) → SetPost w O d m ks (setF f key v) (.returned .nilIface) w' := by
    intro w' hm hg
    have hne : d ≠ m := by
      rintro rfl
      obtain ⟨D, ⟨es, clock, hb, _⟩, _⟩ := h3
      rw [h1] at hb
      cases hb
    refine ⟨rfl, ⟨self, _, op, (hg.block d (Array.getElem?_eq_some_iff.1 h1).1 (by simpa using hne)).trans h1, own_other h2 hg (.inr fun e => ?_), ?_, .inl h4, .inl h5, fun k q => .inl (h6 k q), h7, h8⟩, Only.of_grown hg (fun i hi => by cases hi; exact h5)⟩
    · obtain ⟨D, ⟨es, clock, hb, _⟩, _⟩ := h3
      obtain ⟨cells, hcell⟩ := own_typed h2 g rfl
      simp only [Value.ownBlock, Option.some.injEq] at e
      rw [e, hb] at hcell
      cases hcell
    · have := hm.shrink ks (fun k q => by rw [pick_set, hks]; exact pick_out q)
      rw [pick_set, hks] at this
      exact this
  have HP := Lib.hid HP
  have H3 := Lib.hid h3
  have HC := Lib.hid hc
  have HJ := Lib.hid (And.intro hj1 hj2)
  clear hc hj1 hj2 h1 h2 h3 h4 h5 h6 h7 h8 hks hk
  have hmn := map_nn m
  go_enter Tryd.func64, Tryd.ntmps64
  go_wp2
  go_loop [9, 11, 23] (fun fnd _ i => ∃ n : Nat, n ≤ j ∧ fnd = .bool false ∧ i = .int .i64 n) (fun _ _ i => j + 1 - (intOf i).toNat)
  case atStart => exact ⟨0, Nat.zero_le _, rfl, rfl⟩
  case round =>
    obtain ⟨n, hn, rfl, rfl⟩ := hrel
    have hlt : (n : Int) < (ks.length : Int) := by omega
    by_cases e : n = j
    · subst e
      have hc : w.cell? ⟨g, n, none⟩ = some (.string key) := by rw [HC.out n hj, HJ.out.1]
      clear hn
      go_wp2_with (first | (at_mapUpdate; refine wp_store _ rfl _ _ _ rfl m ks.length (pick ks f) rfl H3.out (by unfold maxLen; omega) key ck v rfl rfl hv ?_; intro w1 hm1 hg1; have HF := Lib.hid (HP.out w1 hm1 hg1); clear hm1 hg1) | fail)
      go_ret
      exact HF.out
    · obtain ⟨s, hs⟩ : ∃ s, ks[n]'(by omega) = s := ⟨_, rfl⟩
      have hc : w.cell? ⟨g, n, none⟩ = some (.string s) := by rw [HC.out n (by omega), hs]
      have ht : (s.toList == key.toList) = false := beq_eq_false_iff_ne.mpr fun q => HJ.out.2 n (by omega) (by omega) (by rw [hs]; exact toList_inj q)
      clear hs
      go_wp2
      go_round
      case rel => exact ⟨n + 1, by omega, rfl, by go_num⟩
      case measure => simp [intOf]; omega
theorem map_block {w : World} {m n : Nat} {f : ByteArray → Option Value} (h : MapIs w m n f) {b t : Nat} {cs : Array Value} {fr : Nat × Nat} (hb : w.heap[b]? = some (.cells cs t fr)) : b ≠ m := by
  rintro rfl
  obtain ⟨D, ⟨es, clock, hm, _⟩, _⟩ := h
  rw [hb] at hm
  cases hm
theorem map_own {w : World} {m n : Nat} {f : ByteArray → Option Value} (h : MapIs w m n f) {base size k : Nat} {e : TypeId} {v : Value} {xs : List Value} (ho : w.ownsRow base e size v k xs) : some m ≠ v.ownBlock := by
  intro e
  obtain ⟨cells, hc⟩ := own_typed ho m e.symm
  exact map_block h hc rfl
theorem set_mid {w w1 : World} {m n d : Nat} {f : ByteArray → Option Value} {kv u : Value} {ks : List ByteArray} {cs : Array Value} {fr : Nat × Nat} (h1 : w.heap[d]? = some (.cells cs 97 fr)) (h2 : w.ownsRow 0 9 1 kv ks.length (ks.map Value.string)) (h3 : MapIs w m n f) (hg : w.grownBy w1 kv.ownBlock) :
    MapIs (w1.setCell ⟨d, 1, none⟩ u) m n f :=
  h3.move ((Below.heap_setCell _ _ _ _ (fun e => map_block h3 h1 e.symm)).trans (hg.block m h3.lt (map_own h3 h2)))
theorem set_close {w w1 w2 : World} {O : Nat → Prop} {m d : Nat} {f : ByteArray → Value} {self op kv kv1 v : Value} {ks : List ByteArray} {key : ByteArray} (hz : key.size ≤ maxLen) (hk : key ∉ ks)
    (h1 : w.heap[d]? = some (.cells #[self, kv, .map (some m), op] 97 (0, 0))) (h2 : w.ownsRow 0 9 1 kv ks.length (ks.map Value.string)) (h3 : MapIs w m ks.length (pick ks f)) (hr : O d ∧ O m ∧ (∀ k, kv.ownBlock = some k → O k) ∧ ks.Nodup ∧ ∀ k, k ∈ ks → k.size ≤ maxLen)
    (ho : w1.ownsRow 0 9 1 kv1 (ks.length + 1) (ks.map Value.string ++ [Value.string key])) (hg : w.grownBy w1 kv.ownBlock) (hat : kv1.ownBlock = kv.ownBlock ∨ ∃ b, kv1.ownBlock = some b ∧ w.heap.size ≤ b)
    (hm : MapIs w2 m (ks.length + 1) (upd (pick ks f) key (some v))) (hg2 : (w1.setCell ⟨d, 1, none⟩ kv1).grownBy w2 (some m)) : SetPost w O d m (ks ++ [key]) (setF f key v) (.returned .nilIface) w2 := by
  have hks : setK ks key = ks ++ [key] := by unfold setK; rw [if_neg (fun q => hk (inL_iff.1 q))]
  obtain ⟨h4, h5, h6, h7, h8⟩ := hr
  have hd1 : w1.heap[d]? = some (.cells #[self, kv, .map (some m), op] 97 (0, 0)) := (hg.block d (Array.getElem?_eq_some_iff.1 h1).1 (own_ne h2 h1 (by decide))).trans h1
  have hd2 := heap_setCell_same _ d 1 _ _ kv1 hd1
  have ho2 := own_setCell ho (p := ⟨d, 1, none⟩) (own_ne ho hd1 (by decide)) kv1
  have hm2 : MapIs (w1.setCell ⟨d, 1, none⟩ kv1) m ks.length (pick ks f) := set_mid h1 h2 h3 hg
  have hd3 := (hg2.block d (Array.getElem?_eq_some_iff.1 hd2).1 (by simpa using map_block hm2 hd2)).trans hd2
  have ho3 := own_other ho2 hg2 (.inr fun e => map_own hm2 ho2 e.symm)
  refine ⟨rfl, ⟨self, kv1, op, hd3, ?_, ?_, .inl h4, .inl h5, fun k hk => ?_, ?_, fun k hk => ?_⟩, ?_⟩
  · simpa using ho3
  · have := hm.shrink (ks ++ [key]) (fun k q => by rw [pick_set, hks]; exact pick_out q)
    rw [pick_set, hks] at this
    exact this
  · rcases hat with hat | ⟨b, hb, hle⟩
    · exact .inl (h6 k (hat ▸ hk))
    · rw [hb] at hk
      cases hk
      exact .inr hle
  · rw [← hks]; exact setK_nodup h7
  · rw [← hks] at hk
    rcases setK_mem.1 hk with hk | rfl
    · exact h8 k hk
    · exact hz
  · refine Only.trans (O := O) (O1 := O) (O2 := O) (Only.trans (O := O) (O1 := O) (O2 := O) (Only.of_grown hg (fun i hi => h6 i hi)) (Only.set _ d 1 kv1 h4) (fun _ _ h => h) (fun _ _ h => h)) (Only.of_grown hg2 (fun i hi => by cases hi; exact h5)) (fun _ _ h => h) (fun _ _ h => h)

set_option maxRecDepth 100000 in
set_option maxHeartbeats 2000000 in
theorem set_out (w : World) (O : Nat → Prop) (d m : Nat) (ks : List ByteArray) (f : ByteArray → Value) (key : ByteArray) (v opts : Value) (h : DocAt w O d m ks f) (hk : key ∉ ks) (hz : key.size ≤ maxLen) (hv : (RP v).isSome = true) (hl : ks.length ≤ 1099511627776) :
    Calls Tryd.prog 64 #[pv d, .string key, v, opts] w (SetPost w O d m (ks ++ [key]) (setF f key v)) := by
  have hks : setK ks key = ks ++ [key] := by unfold setK; rw [if_neg (fun q => hk (inL_iff.1 q))]
  obtain ⟨self, kv, op, h1, h2, h3, h4, h5, h6, h7, h8⟩ := h
  obtain ⟨A, cap, hkv, hc⟩ : ∃ A cap, kv = .slice A ks.length cap ∧ ∀ i (hi : i < ks.length), ∃ g, A = some ⟨g, 0, none⟩ ∧ w.cell? ⟨g, i, none⟩ = some (.string ks[i]) := by
    by_cases h0 : 0 < ks.length
    · obtain ⟨g, cap, e, hc⟩ := row_cell h2 h0
      exact ⟨_, cap, e, fun i hi => ⟨g, rfl, hc i hi⟩⟩
    · obtain ⟨A, c, e⟩ := own_slice h2
      exact ⟨A, c, e, fun i hi => absurd hi (by omega)⟩
  have c1 := cell_of_row _ d 1 _ _ _ h1
  have c2 := cell_of_row _ d 2 _ _ _ h1
  have HC := Lib.hid hc
  have H1 := Lib.hid h1
  have H2 := Lib.hid h2
  have H3 := Lib.hid h3
  have HR := Lib.hid (And.intro h4 (And.intro h5 (And.intro h6 (And.intro h7 h8))))
  have HK := Lib.hid hk
  clear hc h1 h2 h3 h4 h5 h6 h7 h8 hks hk
  subst hkv
  have hmn := map_nn m
  go_enter Tryd.func64, Tryd.ntmps64
  go_wp2
  go_loop [9, 11, 23] (fun fnd _ i => ∃ n : Nat, n ≤ ks.length ∧ fnd = .bool false ∧ i = .int .i64 n) (fun _ _ i => ks.length - (intOf i).toNat)
  case atStart => exact ⟨0, Nat.zero_le _, rfl, rfl⟩
  case round =>
    obtain ⟨n, hn, rfl, rfl⟩ := hrel
    by_cases e : n < ks.length
    · have hlt : (n : Int) < (ks.length : Int) := by omega
      obtain ⟨g, hg, hcell⟩ := HC.out n e
      obtain ⟨s, hs⟩ : ∃ s, ks[n]'(by omega) = s := ⟨_, rfl⟩
      have hc : w.cell? ⟨g, n, none⟩ = some (.string s) := by rw [hcell, hs]
      have ht : (s.toList == key.toList) = false := beq_eq_false_iff_ne.mpr fun q => HK.out (by rw [← toList_inj q, ← hs]; exact List.getElem_mem _)
      subst hg
      clear hs hcell
      go_wp2
      go_round
      case rel => exact ⟨n + 1, by omega, rfl, by go_num⟩
      case measure => simp [intOf]; omega
    · obtain rfl : n = ks.length := by omega
      clear e hn
      go_wp2_with (first | (at_builtin; refine print_append_cells (w0 := w) 0 rfl _ _ 22 9 (.string ⟨#[]⟩) 1 16 rfl Tryd.underlying22 infoS rfl (by decide) (by decide) (.slice A ks.length cap) ks.length (ks.map Value.string) [.string key] rfl rfl rfl (by intro u hu; simp at hu; subst hu; rfl) H2.out (Below.refl _ _) (Nat.zero_le _) (by omega) ?_; intro v1 w1 hown1 hb1 hg1 hat1; obtain ⟨A1, p1, rfl⟩ := own_slice hown1; have hd1 : w1.heap[d]? = some (.cells #[self, .slice A ks.length cap, .map (some m), op] 97 (0, 0)) := (hg1.block d (Array.getElem?_eq_some_iff.1 H1.out).1 (own_ne H2.out H1.out (by decide))).trans H1.out; have yc := cell_of_row _ d 1 _ _ _ hd1; have yf := Go.frozen_of_row _ d 1 _ _ hd1; have yH := Lib.hid (heap_setCell_same _ d 1 _ _ (.slice A1 (ks.length + 1) p1) hd1); have yc2 := cell_of_row _ d 2 _ _ _ yH.out; have HM := Lib.hid (set_mid (u := .slice A1 (ks.length + 1) p1) H1.out H2.out H3.out hg1); have HO := Lib.hid (And.intro hown1 (And.intro hg1 hat1)); clear hown1 hb1 hg1 hat1 hd1) | (at_mapUpdate; refine wp_store _ rfl _ _ _ rfl m ks.length (pick ks f) rfl HM.out (by unfold maxLen; omega) key hz v rfl rfl hv ?_; intro w2 hm2 hg2; have HF := Lib.hid (And.intro hm2 hg2); clear hm2 hg2) | fail)
      go_ret
      exact set_close hz HK.out H1.out H2.out H3.out HR.out HO.out.1 HO.out.2.1 HO.out.2.2 HF.out.1 HF.out.2
/-- set, whether the name stands there or not. -/
theorem set_any (w : World) (O : Nat → Prop) (d m : Nat) (ks : List ByteArray) (f : ByteArray → Value) (key : ByteArray) (v opts : Value) (h : DocAt w O d m ks f) (hz : key.size ≤ maxLen) (hv : (RP v).isSome = true) (hl : ks.length ≤ 1099511627776) :
    Calls Tryd.prog 64 #[pv d, .string key, v, opts] w (SetPost w O d m (setK ks key) (setF f key v)) := by
  by_cases hk : key ∈ ks
  · have hks : setK ks key = ks := by unfold setK; rw [if_pos (inL_iff.2 hk)]
    rw [hks]
    exact set_in w O d m ks f key v opts h hk hv hl
  · have hks : setK ks key = ks ++ [key] := by unfold setK; rw [if_neg (fun q => hk (inL_iff.1 q))]
    rw [hks]
    exact set_out w O d m ks f key v opts h hk hz hv hl
end Go.Proofs.YtdjogkfgegopfaaDoor
namespace Go.Proofs.YtdjogkfgegopfaaDoor
open Go.RowKit Go.Maps Go.Proofs.YtdjogkfgegopfaaDoor.MFnPaMergeAgain Go.Proofs.YtdjogkfgegopfaaDoor.Pure Go.Proofs.YtdjogkfgegopfaaDoorW.PrintWords Go.Proofs.YtdjogkfgegopfaaDoorW.PrintLast
set_option linter.unusedVariables false
set_option linter.unusedSimpArgs false

def delK (ks : List ByteArray) (key : ByteArray) : List ByteArray := ks.filter (fun x => !decide (x = key))
theorem delK_mem {ks : List ByteArray} {key k : ByteArray} : k ∈ delK ks key ↔ k ∈ ks ∧ k ≠ key := by
  unfold delK
  rw [List.mem_filter]
  simp
theorem delK_nodup {ks : List ByteArray} {key : ByteArray} (h : ks.Nodup) : (delK ks key).Nodup := h.sublist List.filter_sublist
theorem delK_none {ks : List ByteArray} {key : ByteArray} (h : key ∉ ks) : delK ks key = ks := by
  unfold delK
  exact List.filter_eq_self.2 (fun x hx => by simp; rintro rfl; exact h hx)
theorem delK_at : ∀ {ks : List ByteArray} {key : ByteArray} {j : Nat} (hj : j < ks.length), ks.Nodup → ks[j] = key → delK ks key = ks.take j ++ ks.drop (j + 1)
  | a :: ks, key, 0, hj, hn, e => by
    simp at e
    subst e
    have hn := List.nodup_cons.1 hn
    have : delK (a :: ks) a = delK ks a := by unfold delK; simp
    rw [this, delK_none hn.1]
    simp
  | a :: ks, key, j + 1, hj, hn, e => by
    have hn := List.nodup_cons.1 hn
    simp at e hj
    have hne : a ≠ key := by rintro rfl; exact hn.1 (by rw [← e]; exact List.getElem_mem _)
    have h1 : delK (a :: ks) key = a :: delK ks key := by unfold delK; simp [hne]
    rw [h1, delK_at hj hn.2 e]
    simp
theorem pick_del {ks : List ByteArray} {f : ByteArray → Value} {key : ByteArray} : upd (pick ks f) key none = pick (delK ks key) f := by
  funext k
  unfold upd
  by_cases e : k = key
  · subst e
    rw [if_pos rfl, pick_out (fun q => (delK_mem.1 q).2 rfl)]
  · rw [if_neg e]
    by_cases hk : k ∈ ks
    · rw [pick_in hk, pick_in (delK_mem.2 ⟨hk, e⟩)]
    · rw [pick_out hk, pick_out (fun q => hk (delK_mem.1 q).1)]

/-- Stores one behind the other. -/
def setL (xs : List Value) : Nat → List Value → List Value
  | _, [] => xs
  | o, v :: r => setL (xs.set o v) (o + 1) r
theorem setL_get : ∀ (vs xs : List Value) (o i : Nat), o + vs.length ≤ xs.length → (setL xs o vs)[i]? = if o ≤ i ∧ i < o + vs.length then vs[i - o]? else xs[i]?
  | [], xs, o, i, h => by simp [setL]; omega
  | v :: r, xs, o, i, h => by
    simp only [List.length_cons] at h
    unfold setL
    rw [setL_get r (xs.set o v) (o + 1) i (by simp; omega)]
    simp only [List.length_cons]
    by_cases h1 : o + 1 ≤ i ∧ i < o + 1 + r.length
    · rw [if_pos h1, if_pos (by omega), show i - o = (i - (o + 1)) + 1 by omega, List.getElem?_cons_succ]
    · rw [if_neg h1]
      by_cases h2 : i = o
      · subst h2
        rw [if_pos (by omega), Nat.sub_self, List.getElem?_cons_zero, List.getElem?_set_self (by omega)]
      · rw [if_neg (by omega), List.getElem?_set_ne (by omega)]
theorem setL_len : ∀ (vs xs : List Value) (o : Nat), (setL xs o vs).length = xs.length
  | [], _, _ => rfl
  | v :: r, xs, o => by unfold setL; rw [setL_len r]; simp
theorem own_cells : ∀ (vs : List Value) {w : World} {g n cap o : Nat} {e : TypeId} {xs : List Value}, w.ownsRow 0 e 1 (.slice (some ⟨g, 0, none⟩) n cap) n xs → (w.setCells g o vs).ownsRow 0 e 1 (.slice (some ⟨g, 0, none⟩) n cap) n (setL xs o vs)
  | [], w, g, n, cap, o, e, xs, h => h
  | v :: r, w, g, n, cap, o, e, xs, h => own_cells r (h.stored o v).1
theorem own_short {w : World} {g n k cap : Nat} {e : TypeId} {xs : List Value} (h : w.ownsRow 0 e 1 (.slice (some ⟨g, 0, none⟩) n cap) n xs) (hk : k ≤ n) : w.ownsRow 0 e 1 (.slice (some ⟨g, 0, none⟩) k cap) k (xs.take k) := by
  obtain ⟨h1, h2⟩ := h
  refine ⟨by simp; omega, ?_⟩
  rcases h2 with ⟨h2, h3⟩ | ⟨g', cap', cur, e1, hb, hg, hle, hm, hsz, ht⟩
  · cases h2
  · simp only [Value.slice.injEq, Option.some.injEq, Addr.mk.injEq, true_and, and_true] at e1
    obtain ⟨rfl, rfl⟩ := e1
    refine .inr ⟨g, cap, cur, rfl, hb, hg, by omega, hm, hsz, ?_⟩
    rw [← ht, List.take_take]
    congr 1
    omega
theorem setCells_only {O : Nat → Prop} (g : Nat) (hg : O g) : ∀ (vs : List Value) (w : World) (o : Nat), Only O w (w.setCells g o vs)
  | [], w, o => Only.refl O w
  | v :: r, w, o => (Only.set w g o v hg).trans (setCells_only g hg r _ (o + 1)) (fun _ _ h => h) (fun _ _ h => h)
theorem setCells_block (g b : Nat) (hne : b ≠ g) : ∀ (vs : List Value) (w : World) (o : Nat), (w.setCells g o vs).heap[b]? = w.heap[b]?
  | [], w, o => rfl
  | v :: r, w, o => (setCells_block g b hne r _ (o + 1)).trans (Below.heap_setCell _ _ _ _ hne)

/-- The names that move down. -/
def movedS (ks : List ByteArray) (j : Nat) : List Value := (ks.drop (j + 1)).map Value.string
theorem movedS_len (ks : List ByteArray) (j : Nat) : (movedS ks j).length = ks.length - (j + 1) := by simp [movedS]
theorem moved_row {ks : List ByteArray} {key : ByteArray} {j : Nat} (hj : j < ks.length) (hn : ks.Nodup) (e : ks[j] = key) : (setL (ks.map Value.string) j (movedS ks j)).take (ks.length - 1) = (delK ks key).map Value.string ∧ (delK ks key).length = ks.length - 1 := by
  have hd := delK_at hj hn e
  have hl : (delK ks key).length = ks.length - 1 := by rw [hd]; simp; omega
  refine ⟨List.ext_getElem? fun i => ?_, hl⟩
  rw [List.getElem?_take]
  by_cases hi : i < ks.length - 1
  · rw [if_pos hi, setL_get _ _ _ _ (by rw [movedS_len]; simp; omega), movedS_len, hd]
    by_cases h1 : j ≤ i
    · rw [if_pos (by omega)]
      simp only [movedS, List.map_append, List.getElem?_map, List.getElem?_drop]
      rw [List.getElem?_append_right (by simp; omega)]
      simp only [List.getElem?_map, List.getElem?_drop, List.length_map, List.length_take]
      rw [show min j ks.length = j by omega]
    · rw [if_neg (by omega)]
      simp only [List.map_append]
      rw [List.getElem?_append_left (by simp; omega)]
      simp [List.getElem?_take, show i < j by omega]
  · rw [if_neg hi, List.getElem?_eq_none (by simp [hl]; omega)]

def DelPost (w : World) (O : Nat → Prop) (d m : Nat) (ks : List ByteArray) (f : ByteArray → Value) (key : ByteArray) : Ending → World → Prop := fun e w' => e = .returned .nilIface ∧ DocAt w' O d m (delK ks key) f ∧ Only O w w' ∧
  ∀ r n f todo cnt, RangeIs w m r n f todo cnt → ¬ O r → ∃ cnt', RangeIs w' m r n (upd f key none) (fun z => todo z && decide (z ≠ key)) cnt' ∧ cnt' ≤ cnt

theorem del_close {w w2 : World} {O : Nat → Prop} {m d g cap j : Nat} {f : ByteArray → Value} {self op : Value} {ks : List ByteArray} {key : ByteArray} (hj : j < ks.length) (e : ks[j] = key)
    (h1 : w.heap[d]? = some (.cells #[self, .slice (some ⟨g, 0, none⟩) ks.length cap, .map (some m), op] 97 (0, 0))) (h2 : w.ownsRow 0 9 1 (.slice (some ⟨g, 0, none⟩) ks.length cap) ks.length (ks.map Value.string)) (h3 : MapIs w m ks.length (pick ks f)) (hr : O d ∧ O m ∧ (∀ k, (Value.slice (some ⟨g, 0, none⟩) ks.length cap).ownBlock = some k → O k) ∧ ks.Nodup ∧ ∀ k, k ∈ ks → k.size ≤ maxLen)
    (hm : MapIs w2 m ks.length (upd (pick ks f) key none)) (hg2 : ((w.drew.setCells g j (movedS ks j)).setCell ⟨d, 1, none⟩ (.slice (some ⟨g, 0, none⟩) (ks.length - 1) cap)).grownBy w2 (some m))
    (hrg : ∀ r n f todo cnt, RangeIs ((w.drew.setCells g j (movedS ks j)).setCell ⟨d, 1, none⟩ (.slice (some ⟨g, 0, none⟩) (ks.length - 1) cap)) m r n f todo cnt → ∃ cnt', RangeIs w2 m r n (upd f key none) (fun z => todo z && decide (z ≠ key)) cnt' ∧ cnt' ≤ cnt) : DelPost w O d m ks f key (.returned .nilIface) w2 := by
  obtain ⟨h4, h5, h6, h7, h8⟩ := hr
  obtain ⟨hrow, hlen⟩ := moved_row hj h7 e
  have hOg : O g := h6 g rfl
  have hdg : d ≠ g := fun q => own_ne h2 h1 (by decide) (by rw [q]; rfl)
  have hmg : m ≠ g := fun q => map_own h3 h2 (by rw [q]; rfl)
  have hmd : m ≠ d := fun q => map_block h3 h1 q.symm
  have hb1 : (w.drew.setCells g j (movedS ks j)).heap[d]? = some (.cells #[self, .slice (some ⟨g, 0, none⟩) ks.length cap, .map (some m), op] 97 (0, 0)) := (setCells_block g d hdg _ w.drew j).trans h1
  have hb2 := heap_setCell_same _ d 1 _ _ (.slice (some ⟨g, 0, none⟩) (ks.length - 1) cap) hb1
  have ho1 : (w.drew.setCells g j (movedS ks j)).ownsRow 0 9 1 (.slice (some ⟨g, 0, none⟩) ks.length cap) ks.length (setL (ks.map Value.string) j (movedS ks j)) := own_cells (w := w.drew) _ h2
  have ho2 := own_short ho1 (Nat.sub_le ks.length 1)
  rw [hrow] at ho2
  have ho3 := own_setCell ho2 (p := ⟨d, 1, none⟩) (by simp [Value.ownBlock, hdg]) (.slice (some ⟨g, 0, none⟩) (ks.length - 1) cap)
  have hmw : ((w.drew.setCells g j (movedS ks j)).setCell ⟨d, 1, none⟩ (.slice (some ⟨g, 0, none⟩) (ks.length - 1) cap)).heap[m]? = w.heap[m]? := (Below.heap_setCell _ _ _ _ hmd).trans (setCells_block g m hmg _ w.drew j)
  have ho4 := own_other ho3 hg2 (.inr (by simp [Value.ownBlock]; exact fun q => hmg q.symm))
  refine ⟨rfl, ⟨self, _, op, (hg2.block d (Array.getElem?_eq_some_iff.1 hb2).1 (by simp; exact fun q => hmd q.symm)).trans hb2, ?_, ?_, h4, h5, fun k hk => h6 k hk, delK_nodup h7, fun k hk => h8 k (delK_mem.1 hk).1⟩, ?_, ?_⟩
  · rw [hlen]; exact ho4
  · have := hm.shrink (delK ks key) (fun k q => by rw [pick_del]; exact pick_out q)
    rw [pick_del] at this
    exact this
  · exact ((Only.of_below (⟨rfl, rfl, rfl, Nat.le_refl _, fun _ _ => rfl⟩ : Below w.heap.size w w.drew) : Only O w w.drew).trans (setCells_only g hOg _ w.drew j) (fun _ _ h => h) (fun _ _ h => h)).trans ((Only.set _ d 1 _ h4).trans (Only.of_grown (O := O) hg2 (fun i hi => by cases hi; exact h5)) (fun _ _ h => h) (fun _ _ h => h)) (fun _ _ h => h) (fun _ _ h => h)
  · intro r n f' todo cnt hR hOr
    refine hrg r n f' todo cnt (hR.move hmw ?_)
    exact (Below.heap_setCell _ _ _ _ (fun q => hOr (by rw [q]; exact h4))).trans (setCells_block g r (fun q => hOr (by rw [q]; exact hOg)) _ w.drew j)
set_option maxRecDepth 1000000 in
set_option maxHeartbeats 4000000 in
theorem remove_in (w : World) (O : Nat → Prop) (d m : Nat) (ks : List ByteArray) (f : ByteArray → Value) (key : ByteArray) (opts : Value) (h : DocAt w O d m ks f) (hk : key ∈ ks) (hl : ks.length ≤ 1099511627776) :
    Calls Tryd.prog 63 #[pv d, .string key, opts] w (DelPost w O d m ks f key) := by
  obtain ⟨j, hj, hj1, hj2⟩ := first_at hk
  obtain ⟨self, kv, op, h1, h2, h3, h4, h5, h6, h7, h8⟩ := h
  obtain ⟨g, cap, rfl, hc⟩ := row_cell h2 (by omega)
  have hcap : ks.length ≤ cap ∧ cap ≤ 9223372036854775807 := by
    rcases h2.2 with ⟨q, _⟩ | ⟨g', cap', cur, q, _, _, a1, a2, _⟩
    · cases q
    · simp only [Value.slice.injEq] at q; obtain ⟨_, _, rfl⟩ := q; simp only [maxLen] at a2; exact ⟨a1, a2⟩
  have ck := h8 key hk
  have hlook := h3.look ck
  rw [pick_in hk] at hlook
  simp only [Option.getD_some, Option.isSome_some] at hlook
  have c1 := cell_of_row _ d 1 _ _ _ h1
  have c2 := cell_of_row _ d 2 _ _ _ h1
  have HC := Lib.hid hc
  have HJ := Lib.hid (And.intro hj1 hj2)
  have H1 := Lib.hid h1
  have H2 := Lib.hid h2
  have H3 := Lib.hid h3
  have HR := Lib.hid (And.intro h4 (And.intro h5 (And.intro h6 (And.intro h7 h8))))
  have hdg : d ≠ g := fun q => own_ne h2 h1 (by decide) (by rw [q]; rfl)
  have hmd : m ≠ d := fun q => map_block h3 h1 q.symm
  have hmg : m ≠ g := fun q => map_own h3 h2 (by rw [q]; rfl)
  obtain ⟨i0, hi0, hz0, hz1, hz2⟩ := info_parts infoS
  -- where what is behind the name begins
  obtain ⟨B, hB, hnews⟩ : ∃ B : Addr, (if cap = j + 1 then some (⟨g, 0, none⟩ : Addr) else some ⟨g, j + 1, none⟩) = some B ∧ Hid (∀ i u, (movedS ks j)[i]? = some u → w.drew.cell? (B.add i) = some u) := by
    by_cases e : cap = j + 1
    · refine ⟨⟨g, 0, none⟩, by simp [e], Lib.hid fun i u hu => ?_⟩
      have h0 : (movedS ks j).length = 0 := by rw [movedS_len]; omega
      rw [List.length_eq_zero_iff.1 h0] at hu
      simp at hu
    · refine ⟨⟨g, j + 1, none⟩, by simp [e], Lib.hid fun i u hu => ?_⟩
      have hi : i < ks.length - (j + 1) := by
        have := (List.getElem?_eq_some_iff.1 hu).1
        rwa [movedS_len] at this
      simp only [movedS, List.getElem?_map, List.getElem?_drop] at hu
      rw [List.getElem?_eq_getElem (by omega)] at hu
      simp only [Option.map_some, Option.some.injEq] at hu
      rw [Addr.add_lit, ← hu]
      exact hc (j + 1 + i) (by omega)
  have s1 : Hid ((movedS ks j).length = (ks.length - (j + 1)) * 1) := Lib.hid (by rw [Nat.mul_one]; exact movedS_len ks j)
  have s2 : Hid (∀ u ∈ movedS ks j, u.oneCell' = true) := Lib.hid (by
    intro u hu
    obtain ⟨x, _, rfl⟩ := List.mem_map.1 hu
    rfl)
  have s3 : Hid (∀ i, i < (movedS ks j).length → (w.drew.cell? ⟨g, 0 + j * 1 + i, none⟩).isSome = true ∧ w.drew.frozen? ⟨g, 0 + j * 1 + i, none⟩ = false) := Lib.hid (by
    intro i hi
    rw [movedS_len] at hi
    rw [Nat.mul_one, Nat.zero_add]
    refine ⟨?_, h2.frozenAt (j + i)⟩
    show (w.cell? _).isSome = true
    rw [hc (j + i) (by omega)]
    rfl)
  have hwr : IntKind.i64.wrap ((j : Int) + 1) = (j : Int) + 1 := by rw [IntKind.wrap_i64]; omega
  have hp0 : (0 : Int) ≤ (j : Int) + 1 := by omega
  have hp1 : (j : Int) + 1 ≤ (ks.length : Int) := by omega
  have hp2 : ((j : Int) + 1).toNat = j + 1 := by omega
  have hb1 : (w.drew.setCells g j (movedS ks j)).heap[d]? = some (.cells #[self, .slice (some ⟨g, 0, none⟩) ks.length cap, .map (some m), op] 97 (0, 0)) := (setCells_block g d hdg _ w.drew j).trans h1
  have y1 := cell_of_row _ d 1 _ _ _ hb1
  have y2 := Go.frozen_of_row _ d 1 _ _ hb1
  have hb2 := heap_setCell_same _ d 1 _ _ (.slice (some ⟨g, 0, none⟩) (ks.length - 1) cap) hb1
  have y3 := cell_of_row _ d 2 _ _ _ hb2
  have HM := Lib.hid (h3.move (w1 := (w.drew.setCells g j (movedS ks j)).setCell ⟨d, 1, none⟩ (.slice (some ⟨g, 0, none⟩) (ks.length - 1) cap)) ((Below.heap_setCell _ _ _ _ hmd).trans (setCells_block g m hmg _ w.drew j)))
  have hlen : j + (ks.length - (j + 1)) = ks.length - 1 := by omega
  clear hc hj1 hj2 h1 h2 h3 h4 h5 h6 h7 h8 hk hb1 hb2 hdg hmd hmg
  obtain ⟨hcap1, hcap2⟩ := hcap
  have hic : j ≤ cap := by omega
  have hmn := map_nn m
  go_enter Tryd.func63, Tryd.ntmps63
  go_wp2
  go_loop [9, 10, 11, 42] (fun idx _ _ i => ∃ n : Nat, n ≤ j ∧ idx = .int .i64 (-1) ∧ i = .int .i64 n) (fun _ _ _ i => j + 1 - (intOf i).toNat)
  case atStart => exact ⟨0, Nat.zero_le _, rfl, rfl⟩
  case round =>
    obtain ⟨n, hn, rfl, rfl⟩ := hrel
    have hlt : (n : Int) < (ks.length : Int) := by omega
    by_cases e : n = j
    · subst e
      have hc : w.cell? ⟨g, n, none⟩ = some (.string key) := by rw [HC.out n hj, HJ.out.1]
      clear hn
      go_wp2_with fail
      go_region_law (refine step_append_room rfl (.tmp 58) (.tmp 65) 22 rfl 9 i0 1 Tryd.underlying22 hi0 hz1 g 0 n cap (by simp [Act.eval, Act.put]) B (ks.length - (n + 1)) (cap - (n + 1)) (movedS ks n) (by simp [Act.eval, Act.put]) s1.out hnews.out s2.out (by omega) s3.out ?_)
      all_goals go_wp2_with (first | (at_delete; refine wp_delete _ rfl _ _ rfl m ks.length (pick ks f) rfl HM.out key ck rfl ?_; intro w2 hm2 hg2 hr2; have HF := Lib.hid (And.intro hm2 (And.intro hg2 hr2)); clear hm2 hg2 hr2) | fail)
      all_goals go_ret
      all_goals exact del_close hj HJ.out.1 H1.out H2.out H3.out HR.out HF.out.1 HF.out.2.1 HF.out.2.2
    · obtain ⟨s, hs⟩ : ∃ s, ks[n]'(by omega) = s := ⟨_, rfl⟩
      have hc : w.cell? ⟨g, n, none⟩ = some (.string s) := by rw [HC.out n (by omega), hs]
      have ht : (s.toList == key.toList) = false := beq_eq_false_iff_ne.mpr fun q => HJ.out.2 n (by omega) (by omega) (by rw [hs]; exact toList_inj q)
      clear hs
      go_wp2
      go_round
      case rel => exact ⟨n + 1, by omega, rfl, by go_num⟩
      case measure => simp [intOf]; omega
/-- What remove gives at a name that is not there. -/
def MissPost (w : World) (b : Bool) : Ending → World → Prop := fun e w' => ((b = true ∧ e = .returned .nilIface) ∨ (b = false ∧ ∃ a, e = .returned (.iface 112 a))) ∧ Below w.heap.size w w'
set_option maxRecDepth 100000 in
set_option maxHeartbeats 1000000 in
theorem remove_out (B : Nat) (w : World) (O : Nat → Prop) (d m o : Nat) (b : Bool) (ks : List ByteArray) (f : ByteArray → Value) (key : ByteArray) (h : DocAt w O d m ks f) (hk : key ∉ ks) (hz : key.size ≤ maxLen) (ho : w.cell? ⟨o, 2, none⟩ = some (.bool b)) (hG : GLp B w) :
    Calls Tryd.prog 63 #[pv d, .string key, pv o] w (MissPost w b) := by
  obtain ⟨self, kv, op, h1, h2, h3, h4, h5, h6, h7, h8⟩ := h
  have hlook := h3.look hz
  rw [pick_out hk] at hlook
  simp only [Option.getD_none, Option.isSome_none] at hlook
  have c2 := cell_of_row _ d 2 _ _ _ h1
  obtain ⟨-, g0, g1, -, ⟨x0, hx0⟩⟩ := hG
  have hmn := map_nn m
  clear h1 h2 h3 h4 h5 h6 h7 h8 hk hz g0 g1
  cases b with
  | true =>
    go_enter Tryd.func63, Tryd.ntmps63
    go_wp2
    go_ret
    exact ⟨.inl ⟨rfl, rfl⟩, Below.refl _ _⟩
  | false =>
    go_enter Tryd.func63, Tryd.ntmps63
    go_wp2
    go_ret
    exact ⟨.inr ⟨rfl, _, rfl⟩, (Below.refl _ _).alloc (Nat.le_refl _) _⟩
end Go.Proofs.YtdjogkfgegopfaaDoor
namespace Go.Proofs.YtdjogkfgegopfaaDoor
open Go.RowKit Go.Maps Go.Proofs.YtdjogkfgegopfaaDoor.MFnPaMergeAgain Go.Proofs.YtdjogkfgegopfaaDoor.Pure Go.Proofs.YtdjogkfgegopfaaDoorW.PrintWords Go.Proofs.YtdjogkfgegopfaaDoorW.PrintLast
set_option linter.unusedVariables false
set_option linter.unusedSimpArgs false

/-- The cells cs are the tree T, over blocks of S. -/
inductive TR (w : World) (S : Nat → Prop) : S25 → List Value → Prop
  | mk (k : Int) (t : ByteArray) (ks : List ByteArray) (vs : List S25) (A2 A3 : Option Addr) (c2 c3 : Nat) (kc : Nat → List Value) : ks.length ≤ c2 → vs.length ≤ c3 →
      (∀ i (hi : i < ks.length), ∃ ad, A2 = some ad ∧ S ad.block ∧ w.cell? (ad.add i) = some (.string ks[i])) →
      (∀ i, i < vs.length → ∃ ad, A3 = some ad ∧ S ad.block ∧ (kc i).length = 4 ∧ ∀ j u, (kc i)[j]? = some u → w.cell? (ad.add (i * 4 + j)) = some u) →
      (∀ i v, vs[i]? = some v → TR w S v (kc i)) → TR w S ⟨k, t, ks, vs⟩ [.int .i64 k, .string t, .slice A2 ks.length c2, .slice A3 vs.length c3]

theorem TR.mono {w : World} {S : Nat → Prop} {T : S25} {cs : List Value} (h : TR w S T cs) : ∀ {S' : Nat → Prop}, (∀ i, S i → S' i) → TR w S' T cs := by
  induction h with
  | mk k t ks vs A2 A3 c2 c3 kc l2 l3 h2 h3 h4 ih =>
    intro S' hS
    refine .mk k t ks vs A2 A3 c2 c3 kc l2 l3 (fun i hi => ?_) (fun i hi => ?_) (fun i v hv => ih i v hv hS)
    · obtain ⟨ad, e, hs, hc⟩ := h2 i hi
      exact ⟨ad, e, hS _ hs, hc⟩
    · obtain ⟨ad, e, hs, hc⟩ := h3 i hi
      exact ⟨ad, e, hS _ hs, hc⟩
theorem add_block (a : Addr) (i : Nat) : (a.add i).block = a.block := by unfold Addr.add; split <;> rfl
theorem TR.move {w w1 : World} {S : Nat → Prop} {T : S25} {cs : List Value} (h : TR w S T cs) : (∀ i, i < w.heap.size → S i → w1.heap[i]? = w.heap[i]?) → TR w1 S T cs := by
  induction h with
  | mk k t ks vs A2 A3 c2 c3 kc l2 l3 h2 h3 h4 ih =>
    intro hm
    have key : ∀ (ad : Addr) (i : Nat) (u : Value), S ad.block → w.cell? (ad.add i) = some u → w1.cell? (ad.add i) = some u := by
      intro ad i u hs hc
      have hb := World.block_lt_of_cell? w _ hc
      rw [add_block] at hb
      exact (World.cell?_of_block (a := ad.add i) (by rw [add_block]; exact hm _ hb hs)).trans hc
    refine .mk k t ks vs A2 A3 c2 c3 kc l2 l3 (fun i hi => ?_) (fun i hi => ?_) (fun i v hv => ih i v hv hm)
    · obtain ⟨ad, e, hs, hc⟩ := h2 i hi
      exact ⟨ad, e, hs, key _ _ _ hs hc⟩
    · obtain ⟨ad, e, hs, hl, hc⟩ := h3 i hi
      exact ⟨ad, e, hs, hl, fun j u hu => key _ _ _ hs (hc j u hu)⟩
theorem TR.bound {w : World} {S : Nat → Prop} {T : S25} {cs : List Value} (h : TR w S T cs) : TR w (fun i => S i ∧ i < w.heap.size) T cs := by
  induction h with
  | mk k t ks vs A2 A3 c2 c3 kc l2 l3 h2 h3 h4 ih =>
    refine .mk k t ks vs A2 A3 c2 c3 kc l2 l3 (fun i hi => ?_) (fun i hi => ?_) (fun i v hv => ih i v hv)
    · obtain ⟨ad, e, hs, hc⟩ := h2 i hi
      exact ⟨ad, e, ⟨hs, by have := World.block_lt_of_cell? w _ hc; rwa [add_block] at this⟩, hc⟩
    · obtain ⟨ad, e, hs, hl, hc⟩ := h3 i hi
      obtain ⟨u, hu⟩ : ∃ u, (kc i)[0]? = some u := ⟨_, List.getElem?_eq_getElem (by omega)⟩
      exact ⟨ad, e, ⟨hs, by have := World.block_lt_of_cell? w _ (hc 0 u hu); rwa [add_block] at this⟩, hl, hc⟩
theorem TR.step {w w1 : World} {S S' O : Nat → Prop} {T : S25} {cs : List Value} (h : TR w S T cs) (ho : Only O w w1) (hn : ∀ i, i < w.heap.size → S i → ¬ O i) (hS : ∀ i, i < w.heap.size → S i → S' i) : TR w1 S' T cs :=
  ((h.bound).move (fun i hi hs => ho.block i hi (hn i hi hs.1))).mono (fun i hi => hS i hi.2 hi.1)
/-- Over any block of the world. -/
def All (w : World) : Nat → Prop := fun i => i < w.heap.size
theorem TR.below' {w w1 : World} {T : S25} {cs : List Value} (h : TR w (All w) T cs) (hb : Below w.heap.size w w1) : TR w1 (All w1) T cs :=
  h.step (O := fun _ => False) (Only.of_below hb) (fun _ _ _ q => q) (fun i hi _ => Nat.lt_of_lt_of_le hi hb.size)
theorem TR.cells {w : World} {S : Nat → Prop} {T : S25} {cs : List Value} (h : TR w S T cs) : ∃ A2 A3 c2 c3, cs = [.int .i64 T.f0, .string T.f1, .slice A2 T.f2.length c2, .slice A3 T.f3.length c3] ∧ T.f2.length ≤ c2 ∧ T.f3.length ≤ c3 := by
  cases h with
  | mk k t ks vs A2 A3 c2 c3 kc l2 l3 h2 h3 h4 => exact ⟨A2, A3, c2, c3, rfl, l2, l3⟩

/-- As the print's kind reads it. -/
theorem TR.of_K : ∀ (m : Nat) (w : World) (T : S25) (cs : List Value), SizeOf.sizeOf T ≤ m → k25.K w T cs → TR w (All w) T cs
  | 0, w, T, cs, hm, _ => by cases T; simp at hm
  | m + 1, w, ⟨k, t, ks, vs⟩, cs, hm, h => by
    obtain ⟨A2, c2, A3, c3, rfl, l2, h2, l3, h3⟩ := k25_open h
    simp only at l2 l3 h2 h3
    have hk : ∀ i, ∃ c : List Value, i < vs.length → ∃ ad, A3 = some ad ∧ c.length = 4 ∧ (∀ v, vs[i]? = some v → k25.K w v c) ∧ ∀ j u, c[j]? = some u → w.cell? (ad.add (i * 4 + j)) = some u := by
      intro i
      by_cases hi : i < vs.length
      · obtain ⟨ad, c, e1, e2, e3, e4⟩ := Kd.C_get h3 vs[i] i (by omega) (by omega)
        refine ⟨c, fun _ => ⟨ad, e1, e2, fun v hv => ?_, fun j u hu => e4 j u hu⟩⟩
        rw [List.getElem?_eq_getElem hi] at hv
        cases hv
        have : vs.getD (i : Int).toNat vs[i] = vs[i] := by simp [List.getD, List.getElem?_eq_getElem hi]
        rw [this] at e3
        exact e3
      · exact ⟨[], fun q => absurd q hi⟩
    obtain ⟨kc, hkc⟩ := Classical.axiomOfChoice hk
    refine .mk k t ks vs A2 A3 c2 c3 kc l2 l3 (fun i hi => ?_) (fun i hi => ?_) (fun i v hv => ?_)
    · obtain ⟨ad, c, e1, e2, e3, e4⟩ := Kd.C_get h2 ByteArray.empty i (by omega) (by omega)
      have e3 : c = [.string (ks.getD (i : Int).toNat ByteArray.empty)] := e3
      subst e3
      have := e4 0 _ rfl
      refine ⟨ad, e1, ?_, ?_⟩
      · have hb := World.block_lt_of_cell? w _ this
        rwa [add_block] at hb
      · have e5 : (i : Int).toNat * Kd.string.sz + 0 = i := by show (i : Int).toNat * 1 + 0 = i; omega
        rw [e5] at this
        rw [this]
        simp [List.getD, List.getElem?_eq_getElem hi]
    · obtain ⟨ad, e1, e2, e3, e4⟩ := hkc i hi
      obtain ⟨u, hu⟩ : ∃ u, (kc i)[0]? = some u := ⟨_, List.getElem?_eq_getElem (by omega)⟩
      exact ⟨ad, e1, by have := World.block_lt_of_cell? w _ (e4 0 u hu); rwa [add_block] at this, e2, e4⟩
    · have hi : i < vs.length := (List.getElem?_eq_some_iff.1 hv).1
      obtain ⟨ad, e1, e2, e3, e4⟩ := hkc i hi
      have hs := List.sizeOf_lt_of_mem (List.mem_of_getElem? hv)
      exact TR.of_K m w v (kc i) (by simp at hm; omega) (e3 v hv)
theorem TR.K {w : World} {S : Nat → Prop} {T : S25} {cs : List Value} (h : TR w S T cs) (B : Nat) (hB : B ≤ 4611686018427387904) : lim B T → k25.K w T cs := by
  induction h with
  | mk k t ks vs A2 A3 c2 c3 kc l2 l3 h2 h3 h4 ih =>
    intro hl
    simp only [lim] at hl
    refine k25_mk w ⟨k, t, ks, vs⟩ l2 ⟨rfl, by show ks.length ≤ _; omega, fun hp => ?_⟩ l3 ⟨rfl, by show vs.length ≤ _; omega, fun hp => ?_⟩
    · obtain ⟨ad, e, _, _⟩ := h2 0 hp
      refine ⟨ad, e, fun j p hj => ?_⟩
      obtain ⟨hj', rfl⟩ := List.getElem?_eq_some_iff.1 hj
      obtain ⟨ad', e', _, hc⟩ := h2 j hj'
      rw [e] at e'
      cases e'
      refine ⟨[.string ks[j]], rfl, rfl, fun i u hu => ?_⟩
      cases i with
      | zero => simp at hu; subst hu; rw [show j * Kd.string.sz + 0 = j by show j * 1 + 0 = j; omega]; exact hc
      | succ i => simp at hu
    · obtain ⟨ad, e, _, _⟩ := h3 0 hp
      refine ⟨ad, e, fun j p hj => ?_⟩
      have hj' := (List.getElem?_eq_some_iff.1 hj).1
      obtain ⟨ad', e', _, hl4, hc⟩ := h3 j hj'
      rw [e] at e'
      cases e'
      exact ⟨kc j, hl4, ih j p hj (limL_get hl.2.2 (List.mem_of_getElem? hj)), hc⟩
/-- A kid's cells, as a walk reads them. -/
theorem TR.kid {w : World} {S : Nat → Prop} {k : Int} {t : ByteArray} {ks : List ByteArray} {vs : List S25} {v0 v1 v2 : Value} {A3 : Option Addr} {n3 c3 : Nat} (h : TR w S ⟨k, t, ks, vs⟩ [v0, v1, v2, .slice A3 n3 c3]) {i : Nat} (hi : i < vs.length) :
    ∃ ad B2 d2 B3 d3, A3 = some ad ∧ w.cell? (ad.add (i * 4)) = some (.int .i64 vs[i].f0) ∧ w.cell? ⟨(ad.add (i * 4)).block, (ad.add (i * 4)).off + 1, none⟩ = some (.string vs[i].f1) ∧ w.cell? ⟨(ad.add (i * 4)).block, (ad.add (i * 4)).off + 2, none⟩ = some (.slice B2 vs[i].f2.length d2) ∧
      w.cell? ⟨(ad.add (i * 4)).block, (ad.add (i * 4)).off + 3, none⟩ = some (.slice B3 vs[i].f3.length d3) ∧ TR w S vs[i] [.int .i64 vs[i].f0, .string vs[i].f1, .slice B2 vs[i].f2.length d2, .slice B3 vs[i].f3.length d3] := by
  cases h with
  | mk _ _ _ _ A2 _ c2 _ kc l2 l3 h2 h3 h4 =>
    obtain ⟨ad, e, hs, hl, hc⟩ := h3 i hi
    have hk := h4 i vs[i] (List.getElem?_eq_getElem hi)
    obtain ⟨B2, B3, d2, d3, e2, _, _⟩ := hk.cells
    rw [e2] at hk hc
    exact ⟨ad, B2, d2, B3, d3, e, hc 0 _ rfl, by rw [← add_field _ _ 1 (by omega)]; exact hc 1 _ rfl, by rw [← add_field _ _ 2 (by omega)]; exact hc 2 _ rfl, by rw [← add_field _ _ 3 (by omega)]; exact hc 3 _ rfl, hk⟩
theorem TR.key {w : World} {S : Nat → Prop} {k : Int} {t : ByteArray} {ks : List ByteArray} {vs : List S25} {v0 v1 v3 : Value} {A2 : Option Addr} {n2 c2 : Nat} (h : TR w S ⟨k, t, ks, vs⟩ [v0, v1, .slice A2 n2 c2, v3]) {i : Nat} (hi : i < ks.length) :
    ∃ ad, A2 = some ad ∧ w.cell? (ad.add i) = some (.string ks[i]) := by
  cases h with
  | mk _ _ _ _ _ A3 _ c3 kc l2 l3 h2 h3 h4 =>
    obtain ⟨ad, e, hs, hc⟩ := h2 i hi
    exact ⟨ad, e, hc⟩
end Go.Proofs.YtdjogkfgegopfaaDoor
