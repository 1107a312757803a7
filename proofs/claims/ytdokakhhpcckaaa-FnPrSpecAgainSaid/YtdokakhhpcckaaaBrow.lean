/- A row of bytes that a call made itself, by []byte(s) or by append, whatever mark its block bears: one byte more (append), the text of it (string). Condition: fewer than 2^47 bytes. -/
import Derived.ArgAppend
import Derived.Below
import Derived.Lib.ConvBytes
import Derived.Laws.IdiomStrings
import Derived.Laws.BytesString
import Derived.WalkKit
namespace Go.Proofs.Ytdokakhhpcckaaa
open Go.RowKit

abbrev bv (b : UInt8) : Value := .int .u8 (b.toNat : Int)

/-- v is a slice of a row at or behind block base, of the bytes bs; none of its cells is frozen. -/
def Brow (w : World) (base : Nat) (v : Value) (bs : List UInt8) : Prop :=
  ∃ g cap, v = .slice (some ⟨g, 0, none⟩) bs.length cap ∧ base ≤ g ∧ g < w.heap.size ∧ bs.length ≤ cap ∧ cap ≤ maxLen ∧
    (∀ j b, bs[j]? = some b → w.cell? ⟨g, j, none⟩ = some (bv b)) ∧
    ∀ j, j < cap → (w.cell? ⟨g, j, none⟩).isSome = true ∧ w.frozen? ⟨g, j, none⟩ = false

theorem Brow.lt {w : World} {base : Nat} {v : Value} {bs : List UInt8} (h : Brow w base v bs) : ∀ k, v.ownBlock = some k → base ≤ k ∧ k < w.heap.size := by
  obtain ⟨g, cap, rfl, hb, hl, _⟩ := h
  intro k hk
  simp [Value.ownBlock] at hk
  subst hk
  exact ⟨hb, hl⟩

theorem Brow.block {w : World} {base : Nat} {v : Value} {bs : List UInt8} (h : Brow w base v bs) : ∃ k, v.ownBlock = some k ∧ base ≤ k ∧ k < w.heap.size := by
  obtain ⟨g, cap, rfl, hb, hl, _⟩ := h
  exact ⟨g, rfl, hb, hl⟩

theorem Brow.kept {w w' : World} {base : Nat} {v : Value} {bs : List UInt8} {row : Option Nat} (h : Brow w base v bs) (hg : w.grownBy w' row) (hne : v.ownBlock ≠ row) : Brow w' base v bs := by
  obtain ⟨g, cap, rfl, hb, hl, hle, hm, hc, hs⟩ := h
  have hbl : w'.heap[g]? = w.heap[g]? := hg.block g hl (by simpa [Value.ownBlock] using hne)
  refine ⟨g, cap, rfl, hb, Nat.lt_of_lt_of_le hl hg.size, hle, hm, fun j b hj => ?_, fun j hj => ?_⟩
  · rw [World.cell?_of_block (a := ⟨g, j, none⟩) hbl]; exact hc j b hj
  · rw [World.cell?_of_block (a := ⟨g, j, none⟩) hbl, World.frozen?_of_block (a := ⟨g, j, none⟩) hbl]; exact hs j hj

theorem Brow.alloc {w : World} {base : Nat} {v : Value} {bs : List UInt8} (h : Brow w base v bs) (o : Obj) : Brow (w.alloc o) base v bs :=
  h.kept (World.grownBy_alloc w o none) (by obtain ⟨k, hk, _⟩ := h.block; rw [hk]; simp)

theorem Brow.below {w w' : World} {base : Nat} {v : Value} {bs : List UInt8} (h : Brow w base v bs) (hb : Below w.heap.size w w') : Brow w' base v bs :=
  h.kept (row := none) ⟨hb.os, hb.tape, hb.output, hb.size, fun i hi _ => hb.block i hi⟩ (by obtain ⟨k, hk, _⟩ := h.block; rw [hk]; simp)

theorem frozen_of_row (w : World) (g : Nat) (cur : Array Value) (e : TypeId) (a b : Nat) (h : w.heap[g]? = some (.cells cur e (a, b))) (j : Nat) (hj : j < a ∨ b ≤ j) : w.frozen? ⟨g, j, none⟩ = false := by
  simp [World.frozen?, h]
  omega

theorem Brow.ofOwn {w : World} {base : Nat} {e : TypeId} {v : Value} {bs : List UInt8} (h : w.ownsRow base e 1 v bs.length (bs.map bv)) (h0 : 0 < bs.length) : Brow w base v bs := by
  have hcells := h
  rcases h.2 with ⟨_, hz⟩ | ⟨g, cap, cur, rfl, hb, hg, hle, hm, hsz, ht⟩
  · omega
  · have hlt := (Array.getElem?_eq_some_iff.1 hg).1
    refine ⟨g, cap, rfl, hb, hlt, hle, hm, fun j b hj => ?_, fun j hj => ⟨?_, frozen_of_row w g cur e 0 0 hg j (.inr (Nat.zero_le _))⟩⟩
    · have hh := hcells.cells (g := g) rfl j (bv b) (by rw [List.getElem?_map, hj]; rfl)
      have hadd : (⟨g, 0, none⟩ : Addr).add j = ⟨g, j, none⟩ := by unfold Addr.add; split <;> simp_all
      rwa [hadd] at hh
    · rw [cell_of_row w g j cur e (0, 0) hg]
      simp [hsz, hj]

theorem Brow.conv (w : World) (e : TypeId) (s : ByteArray) (hs : s.size ≤ maxLen) : Brow (Lib.bytesWorld w e s) w.heap.size (.slice (some ⟨w.heap.size, 0, none⟩) s.size (grownCap w s.size 0 e)) s.data.toList := by
  have hge := grownCap_ge w s.size 0 e
  have hsz : (Lib.bytesCells w e s).size = grownCap w s.size 0 e := by
    simp only [Lib.bytesCells, Array.size_append, Array.size_map, Array.size_replicate]
    have : s.data.size = s.size := rfl
    omega
  have hnew := Lib.bytesWorld_at_new w e s
  have hl : s.data.toList.length = s.size := by rw [Array.length_toList]; rfl
  refine ⟨w.heap.size, grownCap w s.size 0 e, by rw [hl], Nat.le_refl _, by rw [Lib.bytesWorld_size]; omega, by rw [hl]; exact hge, grownCap_le_maxLen w s.size 0 e hs, fun j b hj => ?_, fun j hj => ⟨?_, ?_⟩⟩
  · have hjl : j < s.size := by
      rcases Nat.lt_or_ge j s.size with h | h
      · exact h
      · rw [List.getElem?_eq_none (by omega)] at hj; cases hj
    rw [Lib.bytesWorld_cell w e s j hjl]
    simp [List.getD, hj]
  · rw [cell_of_row _ _ j _ e _ hnew]
    simp [hsz, hj]
  · exact frozen_of_row _ _ _ _ _ _ hnew j (.inl (by rw [hsz]; exact hj))

theorem grown_bytes (w : World) (e : TypeId) (s : ByteArray) : w.grownBy (Lib.bytesWorld w e s) none :=
  ⟨rfl, rfl, rfl, by rw [Lib.bytesWorld_size]; omega, fun k hk _ => Lib.bytesWorld_at_old w e s k hk⟩

/-- One byte more. -/
theorem run_append_brow {P : Program} (w : World) (base : Nat) (t ty e : TypeId) (i : TypeInfo) (z : Value) (ht : P.underlying t = some (.slice e)) (hi : P.info? e = some i) (hz : i.zero = some z)
    (hsize : i.size = 1) (hby : i.bytes = 1) (hzs : z.cells.size = 1) (hbase : base ≤ w.heap.size)
    (v : Value) (bs : List UInt8) (h : Brow w base v bs) (ad : Addr) (c : Nat) (b : UInt8) (hc : w.cell? ad = some (bv b)) (hn : bs.length + 1 ≤ 140737488355328) :
    ∃ v' w', (Builtin.append_ #[t, t] ty #[v, .slice (some ad) 1 c]).run P w = .ok v' w' ∧ Brow w' base v' (bs ++ [b]) ∧ w.grownBy w' v.ownBlock ∧ (v'.ownBlock = v.ownBlock ∨ ∃ k, v'.ownBlock = some k ∧ w.heap.size ≤ k) := by
  obtain ⟨g, cap, rfl, hb, hl, hle, hm, hcl, hs⟩ := h
  have hadd0 : ad.add 0 = ad := by unfold Addr.add; split <;> simp_all
  have hnews : ∀ j u, [bv b][j]? = some u → w.cell? (ad.add j) = some u := by
    intro j u hj
    cases j with
    | zero => simp at hj; subst hj; rw [hadd0]; exact hc
    | succ j => simp at hj
  by_cases hr : bs.length + 1 ≤ cap
  · have hj : ∀ j, j < [bv b].length → 0 + bs.length * i.size + j < cap := by intro j hj; simp at hj; rw [hsize]; omega
    have hrun := run_append_room_cells (P := P) w t ty e i ht hi g 0 bs.length cap ad 1 c [bv b] (by rw [hsize]; rfl) hnews (by intro u hu; simp at hu; subst hu; rfl) hr
      (fun j hj' => (hs _ (hj j hj')).1) (fun j hj' => (hs _ (hj j hj')).2)
    have e0 : 0 + bs.length * i.size = bs.length := by rw [hsize]; omega
    rw [e0] at hrun
    have hk : w.keptBut (w.setCells g bs.length [bv b]) (fun p => p = .cell g bs.length) := World.keptBut_setCells g [bv b] bs.length w (fun j hj => by simp at hj; subst hj; rfl)
    refine ⟨_, _, hrun, ⟨g, cap, by simp, hb, ?_, by simpa using hr, hm, fun j u hj => ?_, fun j hj => ⟨?_, ?_⟩⟩, ⟨rfl, rfl, rfl, by simp [World.setCells, World.setCell], fun k hk hne => ?_⟩, .inl rfl⟩
    · simpa [World.setCells, World.setCell] using hl
    · rcases Nat.lt_or_ge j bs.length with hjl | hjl
      · rw [List.getElem?_append_left hjl] at hj
        rw [World.cell?_setCells_out g _ _ _ _ (fun _ _ => .inl hjl)]
        exact hcl j u hj
      · have hj1 : j = bs.length := by
          rcases Nat.lt_or_ge j (bs.length + 1) with h | h
          · omega
          · rw [List.getElem?_eq_none (by simpa using h)] at hj; cases hj
        subst hj1
        simp at hj
        subst hj
        have := World.cell?_setCells_in g [bv b] bs.length w (fun j hj => (hs _ (by simp at hj; omega)).1) 0 (by simp)
        simpa using this
    · rcases Nat.lt_trichotomy j bs.length with hjl | hjl | hjl
      · rw [World.cell?_setCells_out g _ _ _ _ (fun _ _ => .inl hjl)]; exact (hs j hj).1
      · subst hjl
        have := World.cell?_setCells_in g [bv b] bs.length w (fun j hj => (hs _ (by simp at hj; omega)).1) 0 (by simp)
        simp at this
        rw [this]; rfl
      · rw [World.cell?_setCells_out g _ _ _ _ (fun _ _ => .inr (by simp; omega))]; exact (hs j hj).1
    · rw [World.frozen?_setCells]; exact (hs j hj).2
    · simp only [World.setCells]
      exact Below.heap_setCell _ _ _ _ (by simp [Value.ownBlock] at hne; simpa using hne)
  · obtain ⟨v', w', hrun, r1, r2⟩ := run_append_arg_grows (P := P) w t ty e i z 1 1 ht hi hz hsize hby hzs (by omega) ⟨g, 0, none⟩ bs.length cap (bs.map bv) (by simp)
      (fun j u hj => by
        have hadd : (⟨g, 0, none⟩ : Addr).add j = ⟨g, j, none⟩ := by unfold Addr.add; split <;> simp_all
        rw [hadd]
        rw [List.getElem?_map] at hj
        cases hq : bs[j]? with
        | none => rw [hq] at hj; cases hj
        | some q => rw [hq] at hj; simp at hj; subst hj; exact hcl j q hq) ad 1 c [bv b] (by simp) hnews (by omega) (by simp only [maxLen] at *; omega) (by omega)
    have hlen : (bs ++ [b]).length = bs.length + 1 := by simp
    have hb' : Brow w' w.heap.size v' (bs ++ [b]) := Brow.ofOwn (e := e) (by rw [hlen, List.map_append]; exact r1) (by omega)
    obtain ⟨k, hk, hk1, _⟩ := hb'.block
    obtain ⟨g', cap', hv, q1, q2, q3⟩ := hb'
    exact ⟨_, w', hrun, ⟨g', cap', hv, Nat.le_trans hbase q1, q2, q3⟩, ⟨r2.os, r2.tape, r2.output, r2.size, fun k hk _ => r2.block k hk (by simp)⟩, .inr ⟨k, hk, hk1⟩⟩

/-- The same in a walk, behind at_builtin. -/
theorem wpList_append_brow {P : Program} {ops : Array Oper} {rest : List Oper} {o : Oper} {a : Act} {Q : Exit → Act → World → Prop} {w0 W : World} (base : Nat) (hgd : o.guard = none) (s x : Operand) (t e : TypeId)
    (ho : o.op = .call { callee := .builtin .append, args := #[s, x], argTypes := #[t, t] })
    (ht : P.underlying t = some (.slice e)) (hinfo : (P.info? e).map (fun i => (i.zero, i.size, i.bytes)) = some (some (.int .u8 0), 1, 1))
    (v : Value) (bs : List UInt8) (b : UInt8) (hs : a.eval s = v) (hx : a.eval x = .slice (some ⟨W.heap.size, 0, none⟩) 1 1)
    (HO : Brow W base v bs) (HB : Below base w0 W) (hbase : base ≤ W.heap.size) (hl : bs.length + 1 ≤ 140737488355328)
    (h : ∀ v1 w1, Brow w1 base v1 (bs ++ [b]) → Below base w0 w1 → W.grownBy w1 v.ownBlock → (v1.ownBlock = v.ownBlock ∨ ∃ k, v1.ownBlock = some k ∧ W.heap.size ≤ k) → wpList P ops Q rest (a.put o.dst v1) w1) :
    wpList P ops Q (o :: rest) a (W.alloc (.cells #[.int .u8 (b.toNat : Int)] e)) := by
  obtain ⟨i0, hi, hzz⟩ := Option.map_eq_some_iff.1 hinfo
  simp only [Prod.mk.injEq] at hzz
  obtain ⟨hz0, hz1, hz2⟩ := hzz
  have hsz : (W.alloc (.cells #[.int .u8 (b.toNat : Int)] e)).heap.size = W.heap.size + 1 := by simp
  obtain ⟨v1, w1, hrun, r1, r2, r3⟩ := run_append_brow (P := P) (W.alloc (.cells #[.int .u8 (b.toNat : Int)] e)) base t o.type e i0 (.int .u8 0) ht hi hz0 hz1 hz2 rfl (by omega) v bs (HO.alloc _) ⟨W.heap.size, 0, none⟩ 1 b
    (by rw [cell_of_row _ _ 0 _ e (0, 0) (heap_alloc_new W _)]; rfl) hl
  refine wpList_plain hgd fun K hK' => ?_
  unfold Oper.wp
  simp [execOp, ho, resolve, invoke, builtin, hs, hx, hrun, Result.andThen]
  have hlt := HO.lt
  refine hK' _ _ (h v1 w1 r1 ((HB.alloc hbase _).grown r2 (by omega) (fun k hk => (hlt k hk).1)) ?_ ?_)
  · exact ⟨r2.os, r2.tape, r2.output, Nat.le_trans (by omega) r2.size, fun k hk hne => (r2.block k (by omega) hne).trans (Below.heap_alloc W _ k hk)⟩
  · rcases r3 with r3 | ⟨k, hk, hk1⟩
    · exact .inl r3
    · exact .inr ⟨k, hk, by omega⟩

/-- The other row stays. -/
theorem Brow.other {w w1 : World} {base : Nat} {v v1 u : Value} {bs : List UInt8} (h : Brow w base u bs) (hg : w.grownBy w1 v.ownBlock) (hne : u.ownBlock ≠ v.ownBlock)
    (h1 : v1.ownBlock = v.ownBlock ∨ ∃ k, v1.ownBlock = some k ∧ w.heap.size ≤ k) : Brow w1 base u bs ∧ u.ownBlock ≠ v1.ownBlock := by
  refine ⟨h.kept hg hne, ?_⟩
  rcases h1 with h1 | ⟨k, hk, hk1⟩
  · rw [h1]; exact hne
  · rw [hk]
    obtain ⟨j, hj, _, hjl⟩ := h.block
    rw [hj]
    simp
    omega

/-- The text of a row. -/
theorem Brow.string {P : Program} {w : World} {base : Nat} {v : Value} {bs : List UInt8} (h : Brow w base v bs) (src dst e : TypeId) (hs : P.underlying src = some (.slice e)) (he : P.underlying e = some (.int .u8)) (hd : P.underlying dst = some .string) :
    (convert src dst v).run P w = .ok (.string ⟨bs.toArray⟩) w := by
  obtain ⟨g, cap, rfl, _, _, _, _, hc, _⟩ := h
  have hl := run_loadCells_list (P := P) w ⟨g, 0, none⟩ (bs.map bv) (fun j u hj => by
    have hadd : (⟨g, 0, none⟩ : Addr).add j = ⟨g, j, none⟩ := by unfold Addr.add; split <;> simp_all
    rw [hadd]
    rw [List.getElem?_map] at hj
    cases hq : bs[j]? with
    | none => rw [hq] at hj; cases hj
    | some q => rw [hq] at hj; simp at hj; subst hj; exact hc j q hq)
  have hm : bs.map bv = (bs.map (fun b => (b.toNat : Int))).map (Value.int .u8) := by simp [bv]
  have hln : (bs.map bv).length = bs.length := by simp
  rw [hln, hm] at hl
  rw [run_convert_bytes_string w src dst e _ _ cap hs he hd, run_bytesToString w _ _ cap (bs.map (fun b => (b.toNat : Int))) hl, foldl_push_byteCells]
  simp [ByteArray.empty, ByteArray.emptyWithCapacity]
  rfl

end Go.Proofs.Ytdokakhhpcckaaa
