/- The walk of jsonparser's Unescape: what it makes of a row of bytes in which a backslash stands. Conditions: the row takes at most 2^47 - 4096 bytes; the package's escape table, configuration and error hold what their initialisers lay. -/
import Derived.Test.YtnidncohhinjbaaDoorJq5
namespace Go.Proofs.YtnidncohhinjbaaDoor
open Go.RowKit

def unL : Nat → List UInt8 → List UInt8 → Option (List UInt8)
  | 0, _, _ => none
  | k + 1, l, acc => match escF l with
    | none => none
    | some (n, ys) => if Lib.indexByte (l.drop n) 92 = -1 then some (acc ++ ys ++ l.drop n) else unL k ((l.drop n).drop (Lib.indexByte (l.drop n) 92).toNat) (acc ++ ys ++ (l.drop n).take (Lib.indexByte (l.drop n) 92).toNat)
def unF (x : List UInt8) : Option (List UInt8) := unL (x.length + 1) (x.drop (Lib.indexByte x 92).toNat) (x.take (Lib.indexByte x 92).toNat)

theorem ix_at : ∀ l : List UInt8, Lib.indexByte l 92 = -1 ∨ ∃ j r, Lib.indexByte l 92 = ((j : Nat) : Int) ∧ j < l.length ∧ l.drop j = 92 :: r
  | [] => .inl rfl
  | b :: l => by
    unfold Lib.indexByte
    by_cases hb : b = 92
    · subst hb
      exact .inr ⟨0, l, by simp, by simp, rfl⟩
    · have h1 : (b == 92) = false := by simpa using hb
      rw [h1]
      rcases ix_at l with h | ⟨j, r, h, hj, hr⟩
      · left
        simp [h]
      · right
        refine ⟨j + 1, r, ?_, by simp only [List.length_cons]; omega, by simpa using hr⟩
        have h2 : (Lib.indexByte l 92 == -1) = false := by rw [h]; simp
        simp [h]

def Row (w : World) (p : Addr) (m cap : Nat) (l : List UInt8) : Prop := l.length = m ∧ m ≤ cap ∧ cap ≤ 9223372036854775807 ∧ ∀ i x, l[i]? = some x → w.cell? (p.add i) = some (bv x)
def Tail (B N : Nat) (q : Addr) (d a : Nat) : Prop := a + d = N ∧ (0 < d → q = ⟨B, a, none⟩)

theorem add_add (p : Addr) (k i : Nat) : (p.add (k * 1)).add i = p.add (k + i) := by
  unfold Addr.add
  by_cases hk : k = 0
  · subst hk; simp
  · by_cases hi : i = 0
    · subst hi; simp [hk]
    · simp [hk, hi]
      omega

theorem row_from {w : World} {p : Addr} {m cap : Nat} {l : List UInt8} (h : Row w p m cap l) (k : Nat) (hk : k ≤ m) :
    ∃ p' m' cap', (∀ W, (Instr.slice 83 (.slice (some p) m cap) (some (.int .i64 (k : Int))) none none).run Tryd.prog W = .ok (.slice (some p') m' cap') W) ∧ (m' + k = m ∧ cap' ≤ cap) ∧ Row w p' m' cap' (l.drop k) := by
  obtain ⟨h1, h2, h3, h4⟩ := h
  refine ⟨if cap = k then p else p.add (k * 1), m - k, cap - k, fun W => ?_, ⟨by omega, by omega⟩, by rw [List.length_drop, h1], by omega, by omega, fun i x hi => ?_⟩
  · have ht' : Tryd.prog.underlying 83 = some (.slice (Tryd.prog.elem 83)) := by simp [Program.elem, Tryd.underlying83]
    have he : Tryd.prog.elem 83 = 5 := by simp [Program.elem, Tryd.underlying83]
    rw [run_slice_l W 83 _ _ _ ht' .i64 _ (by omega) (by omega), he, Tryd.sizeOf5]
    simp only [Result.andThen, sliced, Int.toNat_natCast]
    by_cases h0 : cap = k
    · simp [h0]
    · simp [h0]
  · rw [List.getElem?_drop] at hi
    have hlt : k + i < l.length := (List.getElem?_eq_some_iff.1 hi).1
    rw [if_neg (by omega), add_add]
    exact h4 _ _ hi

theorem row_to {w : World} {p : Addr} {m cap : Nat} {l : List UInt8} (h : Row w p m cap l) (k : Nat) (hk : k ≤ m) :
    ∃ p', (∀ W, (Instr.slice 83 (.slice (some p) m cap) none (some (.int .i64 (k : Int))) none).run Tryd.prog W = .ok (.slice (some p') k cap) W) ∧ Row w p' k cap (l.take k) := by
  obtain ⟨h1, h2, h3, h4⟩ := h
  refine ⟨p, fun W => ?_, by rw [List.length_take]; omega, by omega, by omega, fun i x hi => ?_⟩
  · have ht' : Tryd.prog.underlying 83 = some (.slice (Tryd.prog.elem 83)) := by simp [Program.elem, Tryd.underlying83]
    have he : Tryd.prog.elem 83 = 5 := by simp [Program.elem, Tryd.underlying83]
    rw [run_slice_h W 83 _ _ _ ht' .i64 _ (by omega) (by omega), he, Tryd.sizeOf5]
    simp only [Result.andThen, sliced, Int.toNat_natCast]
    simp [Addr.add]
  · rw [List.getElem?_take] at hi
    split at hi
    · exact h4 _ _ hi
    · cases hi

theorem tail_from {B N : Nat} {q : Addr} {d a : Nat} (h : Tail B N q d a) (k : Nat) (hk : k ≤ d) :
    ∃ q' d', (∀ W, (Instr.slice 83 (.slice (some q) d d) (some (.int .i64 (k : Int))) none none).run Tryd.prog W = .ok (.slice (some q') d' d') W) ∧ d' + k = d ∧ Tail B N q' d' (a + k) := by
  obtain ⟨h1, h2⟩ := h
  refine ⟨if d = k then q else q.add (k * 1), d - k, fun W => ?_, by omega, by omega, fun hd => ?_⟩
  · have ht' : Tryd.prog.underlying 83 = some (.slice (Tryd.prog.elem 83)) := by simp [Program.elem, Tryd.underlying83]
    have he : Tryd.prog.elem 83 = 5 := by simp [Program.elem, Tryd.underlying83]
    rw [run_slice_l W 83 _ _ _ ht' .i64 _ (by omega) (by omega), he, Tryd.sizeOf5]
    simp only [Result.andThen, sliced, Int.toNat_natCast]
    by_cases h0 : d = k
    · simp [h0]
    · simp [h0]
  · rw [if_neg (by omega), h2 (by omega)]
    unfold Addr.add
    by_cases hk0 : k = 0
    · simp [hk0]
    · simp [hk0]

theorem Buf_put {w0 wr : World} {h N : Nat} {acc l : List UInt8} (hb : Lib.Buf w0 wr h N acc) (hfit : acc.length + l.length ≤ N) : Lib.Buf w0 (wr.setCells h acc.length (Lib.byteCells l)) h N (acc ++ l) := by
  have hlen : (Lib.byteCells l).length = l.length := by simp [Lib.byteCells]
  have hin := World.cell?_setCells_in h (Lib.byteCells l) acc.length wr (fun j hj => by rw [hlen] at hj; exact hb.there _ (by omega))
  have hout := World.cell?_setCells_out h (Lib.byteCells l) acc.length wr
  refine ⟨Lib.below_setCells h (Nat.le_refl _) _ _ hb.below, ?_, ?_, ?_, by rw [List.length_append]; exact hfit⟩
  · intro j hj
    by_cases h1 : acc.length ≤ j ∧ j < acc.length + l.length
    · obtain ⟨d, rfl⟩ : ∃ d, j = acc.length + d := ⟨j - acc.length, by omega⟩
      rw [hin d (by rw [hlen]; omega)]
      rfl
    · rw [hout ⟨h, j, none⟩ (fun _ _ => by rw [hlen]; show j < _ ∨ _ ≤ j; omega)]
      exact hb.there j hj
  · intro j hj
    rw [World.frozen?_setCells]
    exact hb.free j hj
  · intro j x hx
    by_cases h1 : j < acc.length
    · rw [List.getElem?_append_left h1] at hx
      rw [hout ⟨h, j, none⟩ (fun _ _ => Or.inl h1)]
      exact hb.holds j x hx
    · rw [List.getElem?_append_right (by omega)] at hx
      obtain ⟨d, rfl⟩ : ∃ d, j = acc.length + d := ⟨j - acc.length, by omega⟩
      rw [Nat.add_sub_cancel_left] at hx
      have hd : d < l.length := (List.getElem?_eq_some_iff.1 hx).1
      rw [hin d (by rw [hlen]; exact hd)]
      simp [Lib.byteCells, (List.getElem?_eq_some_iff.1 hx).2]

theorem Buf_below {w0 wr w1 : World} {h N : Nat} {acc : List UInt8} (hb : Lib.Buf w0 wr h N acc) (hN : 0 < N) (h1 : Below wr.heap.size wr w1) : Lib.Buf w0 w1 h N acc := by
  obtain ⟨v, hv⟩ := Option.isSome_iff_exists.1 (hb.there 0 hN)
  have hlt : h < wr.heap.size := World.block_lt_of_cell? wr _ hv
  refine ⟨hb.below.trans (h1.mono (Nat.le_of_lt hlt)), fun j hj => ?_, fun j hj => ?_, fun j x hx => ?_, hb.fits⟩
  · rw [h1.cell hlt]; exact hb.there j hj
  · rw [h1.frozen hlt]; exact hb.free j hj
  · rw [h1.cell hlt]; exact hb.holds j x hx

theorem Row_cells {w0 wr : World} {p : Addr} {m cap : Nat} {l : List UInt8} (h : Row w0 p m cap l) (hb : Below w0.heap.size w0 wr) : Row wr p m cap l :=
  ⟨h.1, h.2.1, h.2.2.1, fun i x hi => (hb.cell (World.block_lt_of_cell? w0 _ (h.2.2.2 i x hi))).trans (h.2.2.2 i x hi)⟩

theorem copy_tail {w0 wr : World} {N : Nat} {acc l : List UInt8} {q p : Addr} {d m cap : Nat} (hb : Lib.Buf w0 wr w0.heap.size N acc) (ht : Tail w0.heap.size N q d acc.length) (hr : Row w0 p m cap l) (hm : m ≤ d) (ty : TypeId) :
    ∃ wr', (Builtin.copy_ #[83, 83] ty #[.slice (some q) d d, .slice (some p) m cap]).run Tryd.prog wr = .ok (.int .i64 (m : Int)) wr' ∧ Lib.Buf w0 wr' w0.heap.size N (acc ++ l) := by
  have hs : (Tryd.prog.info? 5).map (·.size) = some 1 := by kernel_rfl
  by_cases hl : m = 0
  · have hnil : l = [] := List.length_eq_zero_iff.1 (by rw [hr.1, hl])
    subst hnil hl
    refine ⟨wr, ?_, by simpa using hb⟩
    exact run_copy_none (P := Tryd.prog) wr 83 83 ty 5 _ _ _ _ _ _ Tryd.underlying83 hs (by simp)
  · have hq := ht.2 (by omega)
    subst hq
    have hr1 := Row_cells hr hb.below
    have hlen : (Lib.byteCells l).length = m := by simp [Lib.byteCells, hr.1]
    have h1 := run_copy_cells (P := Tryd.prog) wr 83 83 ty 5 w0.heap.size acc.length d d p m cap (Lib.byteCells l) Tryd.underlying83 hs (by rw [hlen]; exact (Nat.min_eq_left hm).symm)
      (fun j u hj => by
        rw [Lib.byteCells, List.getElem?_map] at hj
        obtain ⟨x, hx, rfl⟩ := Option.map_eq_some_iff.1 hj
        exact hr1.2.2.2 j x hx)
      (fun j hj => by rw [hlen] at hj; exact hb.there _ (by have := ht.1; omega)) (fun j hj => by rw [hlen] at hj; exact hb.free _ (by have := ht.1; omega))
      (fun u hu' => by obtain ⟨x, _, rfl⟩ := List.mem_map.1 hu'; rfl)
    rw [hlen] at h1
    exact ⟨_, h1, Buf_put hb (by rw [hr.1]; have := ht.1; omega)⟩

/-- IndexByte at a row. -/
theorem ix_row {w : World} {p : Addr} {m cap : Nat} {l : List UInt8} (h : Row w p m cap l) : Calls Tryd.prog 98 #[.slice (some p) m cap, .int .u8 92] w fun e w' => e = .returned (.int .i64 (Lib.indexByte l 92)) ∧ w' = w := by
  have hc := Any.bytes_IndexByte_at lays187 p m cap (l.map fun b => (b.toNat : Int)) 92 w (by rw [List.length_map, h.1]) (fun i hi => by
    have hi' : i < l.length := by rw [h.1]; exact hi
    rw [h.2.2.2 i l[i] (List.getElem?_eq_getElem hi')]
    simp [bv, List.getD, List.getElem?_eq_getElem hi'])
  have e : Lib.bytesOf (l.map fun b => (b.toNat : Int)) = l := by
    unfold Lib.bytesOf
    rw [List.map_map]
    conv => rhs; rw [← List.map_id l]
    apply List.map_congr_left
    intro b _
    simp
  rw [e] at hc
  exact hc

/-- One escape, behind what is filled. -/
theorem esc_buf {w0 wr : World} {N : Nat} {acc l : List UInt8} {q p : Addr} {d m cap : Nat} (hG : GLEsc w0) (hb : Lib.Buf w0 wr w0.heap.size N acc) (ht : Tail w0.heap.size N q d acc.length) (hr : Row w0 p m cap l) (hm : m ≤ d) (hN : N ≤ 140737488351232 ∧ cap ≤ 9223372036854775807) (h92 : ∃ r, l = 92 :: r) :
    Calls Tryd.prog 99 #[cfgV, .slice (some p) m cap, .slice (some q) d d] wr fun e w' =>
      match escF l with
      | none => e = .returned (.tuple #[.int .i64 (-1), .int .i64 (-1)]) ∧ Below wr.heap.size wr w'
      | some (n, ys) => e = .returned (.tuple #[.int .i64 (n : Int), .int .i64 (ys.length : Int)]) ∧ Lib.Buf w0 w' w0.heap.size N (acc ++ ys) := by
  obtain ⟨r, rfl⟩ := h92
  have hd0 : 0 < d := by have := hr.1; simp only [List.length_cons] at this; omega
  have hq := ht.2 hd0
  have hN0 : 0 < N := by have := ht.1; omega
  subst hq
  have hG1 : GLEsc wr := hG.keep hb.below
  have hr1 := Row_cells hr hb.below
  have hml := hr.1
  cases r with
  | nil =>
    simp only [List.length_cons, List.length_nil] at hml
    subst hml
    simp only [escF]
    have HR := Lib.hid hr1
    clear hG hb ht hr hG1 hr1 hN hN0
    unfold cfgV
    go_enter Tryd.func99, Tryd.ntmps99
    go_wp2
    go_ret2
    exact ⟨rfl, (Below.refl _ _).alloc (Nat.le_refl _) _⟩
  | cons c r =>
    simp only [List.length_cons] at hml
    have hml2 : m = r.length + 2 := by omega
    have hcc := hr.2.1
    have hq := esc_any wr p c r cap w0.heap.size acc.length d hG1 ⟨by omega, hN.2, by omega, by have := ht.1; omega⟩ hr1.2.2.2 (fun j hj => ⟨hb.there _ (by have := ht.1; omega), hb.free _ (by have := ht.1; omega)⟩)
    rw [← hml2] at hq
    refine hq.mono ?_
    intro e w' h
    unfold EPost at h
    cases he : escF (92 :: c :: r) with
    | none =>
      rw [he] at h
      exact h
    | some z =>
      obtain ⟨n, ys⟩ := z
      rw [he] at h
      obtain ⟨h1, W1, h2, rfl⟩ := h
      have hfit := escF_fit he
      simp only [List.length_cons] at hfit
      exact ⟨h1, Buf_put (Buf_below hb hN0 h2) (by have := ht.1; omega)⟩
end Go.Proofs.YtnidncohhinjbaaDoor
