/- The walk of jsonparser's unescapeToUTF8Config at the default configuration: one escape. Conditions: the package's escape table and configuration hold what their initialisers lay. -/
import Derived.Test.YtnidncohhinjbaaDoorJq4
namespace Go.Proofs.YtnidncohhinjbaaDoor
open Go.RowKit

/-- What the escapes ask of the package's variables. -/
structure GLEsc (w : World) : Prop where
  c0 : w.cell? ⟨4, 0, none⟩ = some (.bool false)
  c1 : w.cell? ⟨4, 1, none⟩ = some (.bool false)
  c2 : w.cell? ⟨4, 2, none⟩ = some (.int .i64 0)
  er : ∃ t p, w.cell? ⟨7, 0, none⟩ = some (.iface t p)
  t34 : w.cell? ⟨11, 34, none⟩ = some (.int .u8 34)
  t92 : w.cell? ⟨11, 92, none⟩ = some (.int .u8 92)
  t47 : w.cell? ⟨11, 47, none⟩ = some (.int .u8 47)
  t98 : w.cell? ⟨11, 98, none⟩ = some (.int .u8 8)
  t102 : w.cell? ⟨11, 102, none⟩ = some (.int .u8 12)
  t110 : w.cell? ⟨11, 110, none⟩ = some (.int .u8 10)
  t114 : w.cell? ⟨11, 114, none⟩ = some (.int .u8 13)
  t116 : w.cell? ⟨11, 116, none⟩ = some (.int .u8 9)
theorem GLEsc.keep {w w' : World} (h : GLEsc w) (hb : Below w.heap.size w w') : GLEsc w' := by
  have K : ∀ {a v}, w.cell? a = some v → w'.cell? a = some v := fun h => (hb.cell (World.block_lt_of_cell? w _ h)).trans h
  obtain ⟨t, p, h0⟩ := h.er
  exact ⟨K h.c0, K h.c1, K h.c2, ⟨t, p, K h0⟩, K h.t34, K h.t92, K h.t47, K h.t98, K h.t102, K h.t110, K h.t114, K h.t116⟩

def decF (l : List UInt8) : Option (Int × Int) := MjsonparserdecodeUnicodeEscape.jsonparser_decodeUnicodeEscape.f 8 (l.map fun b => (b.toNat : Int))
theorem decF_total (l : List UInt8) : ∃ r n, decF l = some (r, n) ∧ (-2147483648 ≤ r ∧ r ≤ 2147483647) ∧ (n = -1 ∨ (n = 6 ∧ 6 ≤ l.length) ∨ (n = 12 ∧ 12 ≤ l.length)) := by
  have h := MjsonparserdecodeUnicodeEscape.dec_total 5 (l.map fun b => (b.toNat : Int))
  rw [List.length_map] at h
  exact h
/-- One escape: how many bytes it takes, and which it stands for. -/
def escF (l : List UInt8) : Option (Nat × List UInt8) :=
  match l with
  | _ :: c :: _ =>
    if c = 34 then some (2, [34]) else if c = 92 then some (2, [92]) else if c = 47 then some (2, [47]) else if c = 98 then some (2, [8]) else if c = 102 then some (2, [12])
    else if c = 110 then some (2, [10]) else if c = 114 then some (2, [13]) else if c = 116 then some (2, [9])
    else if c = 117 then (match decF l with | some (r, n) => if n = -1 then none else some (n.toNat, Lib.encodeRune r) | none => none)
    else none
  | _ => none

theorem escF_fit {l : List UInt8} {n : Nat} {ys : List UInt8} (h : escF l = some (n, ys)) : n ≤ l.length ∧ ys.length ≤ n ∧ 2 ≤ n := by
  unfold escF at h
  split at h
  · rename_i a c r
    iterate 8
      split at h
      · simp only [Option.some.injEq, Prod.mk.injEq] at h
        obtain ⟨rfl, rfl⟩ := h
        simp
    split at h
    · obtain ⟨r', n', e, -, hn⟩ := decF_total (a :: c :: r)
      rw [e] at h
      simp only at h
      have hl := (Lib.runeCells_length r') ▸ (Lib.runeCells_le r').2
      split at h
      · cases h
      · simp only [Option.some.injEq, Prod.mk.injEq] at h
        obtain ⟨rfl, rfl⟩ := h
        rcases hn with hn | ⟨rfl, hn⟩ | ⟨rfl, hn⟩
        · contradiction
        · exact ⟨hn, by simpa using Nat.le_trans hl (by decide), by decide⟩
        · exact ⟨hn, by simpa using Nat.le_trans hl (by decide), by decide⟩
    · cases h
  · cases h

def EPost (o : Option (Nat × List UInt8)) (h p : Nat) (W : World) : Ending → World → Prop := fun e w' =>
  match o with
  | none => e = .returned (.tuple #[.int .i64 (-1), .int .i64 (-1)]) ∧ Below W.heap.size W w'
  | some (n, ys) => e = .returned (.tuple #[.int .i64 (n : Int), .int .i64 (ys.length : Int)]) ∧ ∃ W1, Below W.heap.size W W1 ∧ w' = W1.setCells h p (Lib.byteCells ys)

def cfgV : Value := .agg #[.bool false, .bool false, .int .i64 0]

set_option maxHeartbeats 4000000 in
set_option maxRecDepth 100000 in
theorem esc_any (W : World) (A : Addr) (c : UInt8) (l : List UInt8) (c0 h p m : Nat) (hG : GLEsc W) (hsz : l.length + 2 ≤ c0 ∧ c0 ≤ 9223372036854775807 ∧ l.length + 2 ≤ m ∧ m ≤ 140737488351232)
    (hr : ∀ j x, (92 :: c :: l)[j]? = some x → W.cell? (A.add j) = some (bv x))
    (hc : ∀ j, j < m → (W.cell? ⟨h, p + j, none⟩).isSome = true ∧ W.frozen? ⟨h, p + j, none⟩ = false) :
    Calls Tryd.prog 99 #[cfgV, .slice (some A) (l.length + 2) c0, .slice (some ⟨h, p, none⟩) m m] W (EPost (escF (92 :: c :: l)) h p W) := by
  unfold cfgV
  obtain ⟨o, ho⟩ : ∃ o, o = escF (92 :: c :: l) := ⟨_, rfl⟩
  rw [← ho]
  have HO := Lib.hid ho
  have HG := Lib.hid hG
  have HR := Lib.hid hr
  have HC := Lib.hid hc
  clear ho hG hr hc
  go_enter Tryd.func99, Tryd.ntmps99
  go_upto_region 1 with fail
  obtain ⟨W1, hW1⟩ : ∃ W1, W1 = W.alloc (Obj.cells #[Value.bool false, Value.bool false, Value.int IntKind.i64 0] 120) := ⟨_, rfl⟩
  rw [← hW1]
  have hB : Below W.heap.size W W1 := by rw [hW1]; exact (Below.refl _ _).alloc (Nat.le_refl _) _
  have e0 : W1.cell? ⟨W.heap.size, 0, none⟩ = some (.bool false) := by rw [hW1, cell_of_row _ _ 0 _ 120 (0, 0) (heap_alloc_new W _)]; rfl
  have e1 : W1.cell? ⟨W.heap.size, 1, none⟩ = some (.bool false) := by rw [hW1, cell_of_row _ _ 1 _ 120 (0, 0) (heap_alloc_new W _)]; rfl
  have K : ∀ {a v}, W.cell? a = some v → W1.cell? a = some v := fun h => (hB.cell (World.block_lt_of_cell? W _ h)).trans h
  have a0 : W1.cell? A = some (.int .u8 92) := by
    have hadd : A.add 0 = A := by unfold Addr.add; split <;> simp_all
    have h0 := K (HR.out 0 92 rfl)
    rw [hadd] at h0
    exact h0
  have HC1 : Hid (∀ j, j < m → (W1.cell? ⟨h, p + j, none⟩).isSome = true ∧ W1.frozen? ⟨h, p + j, none⟩ = false) := Lib.hid fun j hj => by
    obtain ⟨h1, h2⟩ := HC.out j hj
    obtain ⟨v, hv⟩ := Option.isSome_iff_exists.1 h1
    exact ⟨by rw [K hv]; rfl, (hB.frozen (World.block_lt_of_cell? W _ hv)).trans h2⟩
  have hadd1 : A.add 1 = ⟨A.block, A.off + 1, none⟩ := by simp [Addr.add]
  have H1 : Hid (∀ x, c = x → W1.cell? ⟨A.block, A.off + 1, none⟩ = some (bv x)) := Lib.hid fun x hx => hadd1 ▸ K (HR.out 1 x (by rw [hx]; rfl))
  clear hadd1
  have HR1 : Hid (∀ j x, (92 :: c :: l)[j]? = some x → W1.cell? (A.add j) = some (bv x)) := Lib.hid fun j x hj => K (HR.out j x hj)
  have HG1 : Hid (GLEsc W1) := Lib.hid (HG.out.keep hB)
  have HB := Lib.hid hB
  clear hB K hW1 HC HR HG
  obtain ⟨v0, hv0⟩ := Option.isSome_iff_exists.1 (HC1.out 0 (by omega)).1
  have hf0 := (HC1.out 0 (by omega)).2
  rw [Nat.add_zero] at hv0 hf0
  have q1 : decide ((l.length : Int) + 2 < 2) = false := decide_eq_false (by omega)
  have hmp : 0 < m ∧ (0 : Int) < (m : Int) := by omega
  by_cases h34 : c = 34
  · subst h34
    have a1 : W1.cell? ⟨A.block, A.off + 1, none⟩ = some (.int .u8 34) := H1.out 34 rfl
    have tb := HG1.out.t34
    have ho : o = some (2, [34]) := by have := HO.out; simpa [escF] using this
    clear HO H1 HG1 HC1 HR1
    subst ho
    go_wp2
    go_ret2
    exact ⟨rfl, W1, HB.out, rfl⟩
  by_cases h92 : c = 92
  · subst h92
    have a1 : W1.cell? ⟨A.block, A.off + 1, none⟩ = some (.int .u8 92) := H1.out 92 rfl
    have tb := HG1.out.t92
    have ho : o = some (2, [92]) := by have := HO.out; simpa [escF] using this
    clear HO H1 HG1 HC1 HR1
    subst ho
    go_wp2
    go_ret2
    exact ⟨rfl, W1, HB.out, rfl⟩
  by_cases h47 : c = 47
  · subst h47
    have a1 : W1.cell? ⟨A.block, A.off + 1, none⟩ = some (.int .u8 47) := H1.out 47 rfl
    have tb := HG1.out.t47
    have ho : o = some (2, [47]) := by have := HO.out; simpa [escF] using this
    clear HO H1 HG1 HC1 HR1
    subst ho
    go_wp2
    go_ret2
    exact ⟨rfl, W1, HB.out, rfl⟩
  by_cases h98 : c = 98
  · subst h98
    have a1 : W1.cell? ⟨A.block, A.off + 1, none⟩ = some (.int .u8 98) := H1.out 98 rfl
    have tb := HG1.out.t98
    have ho : o = some (2, [8]) := by have := HO.out; simpa [escF] using this
    clear HO H1 HG1 HC1 HR1
    subst ho
    go_wp2
    go_ret2
    exact ⟨rfl, W1, HB.out, rfl⟩
  by_cases h102 : c = 102
  · subst h102
    have a1 : W1.cell? ⟨A.block, A.off + 1, none⟩ = some (.int .u8 102) := H1.out 102 rfl
    have tb := HG1.out.t102
    have ho : o = some (2, [12]) := by have := HO.out; simpa [escF] using this
    clear HO H1 HG1 HC1 HR1
    subst ho
    go_wp2
    go_ret2
    exact ⟨rfl, W1, HB.out, rfl⟩
  by_cases h110 : c = 110
  · subst h110
    have a1 : W1.cell? ⟨A.block, A.off + 1, none⟩ = some (.int .u8 110) := H1.out 110 rfl
    have tb := HG1.out.t110
    have ho : o = some (2, [10]) := by have := HO.out; simpa [escF] using this
    clear HO H1 HG1 HC1 HR1
    subst ho
    go_wp2
    go_ret2
    exact ⟨rfl, W1, HB.out, rfl⟩
  by_cases h114 : c = 114
  · subst h114
    have a1 : W1.cell? ⟨A.block, A.off + 1, none⟩ = some (.int .u8 114) := H1.out 114 rfl
    have tb := HG1.out.t114
    have ho : o = some (2, [13]) := by have := HO.out; simpa [escF] using this
    clear HO H1 HG1 HC1 HR1
    subst ho
    go_wp2
    go_ret2
    exact ⟨rfl, W1, HB.out, rfl⟩
  by_cases h116 : c = 116
  · subst h116
    have a1 : W1.cell? ⟨A.block, A.off + 1, none⟩ = some (.int .u8 116) := H1.out 116 rfl
    have tb := HG1.out.t116
    have ho : o = some (2, [9]) := by have := HO.out; simpa [escF] using this
    clear HO H1 HG1 HC1 HR1
    subst ho
    go_wp2
    go_ret2
    exact ⟨rfl, W1, HB.out, rfl⟩
  by_cases h39 : c = 39
  · subst h39
    have a1 : W1.cell? ⟨A.block, A.off + 1, none⟩ = some (.int .u8 39) := H1.out 39 rfl
    have ho : o = none := by have := HO.out; simpa [escF] using this
    clear HO H1 HG1 HC1 HR1
    subst ho
    go_wp2
    go_ret2
    exact ⟨rfl, HB.out⟩
  by_cases h117 : c = 117
  · subst h117
    have a1 : W1.cell? ⟨A.block, A.off + 1, none⟩ = some (.int .u8 117) := H1.out 117 rfl
    obtain ⟨r, n, hd, hrr, hn⟩ := decF_total (92 :: 117 :: l)
    have ho : o = if n = -1 then none else some (n.toNat, Lib.encodeRune r) := by
      have h2 := HO.out
      unfold escF at h2
      simp only [hd] at h2
      simpa using h2
    have hrow : Go.Proofs.YtnidncohhinjbaaDoorW.PrintWords.Kd.C (Go.Proofs.YtnidncohhinjbaaDoorW.PrintWords.Kd.int .u8) W1 (some A) ((92 :: 117 :: l).map fun b => (b.toNat : Int)).length ((92 :: 117 :: l).map fun b => (b.toNat : Int)) := by
      refine ⟨rfl, by simp only [List.length_map, List.length_cons]; omega, fun _ => ⟨A, rfl, fun j q hj => ⟨[.int .u8 q], rfl, rfl, fun i u hu => ?_⟩⟩⟩
      rw [List.getElem?_map] at hj
      obtain ⟨x, hx, rfl⟩ := Option.map_eq_some_iff.1 hj
      cases i with
      | zero => simp at hu; subst hu; show W1.cell? (A.add (j * 1 + 0)) = _; rw [Nat.mul_one, Nat.add_zero]; exact HR1.out j x hx
      | succ i => simp at hu
    have hlen : ((92 :: 117 :: l).map fun b => (b.toNat : Int)).length = l.length + 2 := by simp
    have CD := MjsonparserdecodeUnicodeEscape.jsonparser_decodeUnicodeEscape.calls 8 (some A) c0 _ r n W1 hrow (by rw [hlen]; omega) hd
    rw [hlen] at CD
    have CD := Lib.hid CD
    have HRR := Lib.hid hrr
    clear HO H1 HG1 HR1 hd hrow hlen hrr
    rcases hn with rfl | hn
    · rw [if_pos rfl] at ho
      subst ho
      go_wp2_with (first | (go_at_call 106; refine CD.out.mono ?_; rintro e w2 ⟨rfl, ⟨⟨q, rfl⟩⟩⟩) | fail)
      go_ret2
      exact ⟨rfl, jq_drewN HB.out _⟩
    · have hne : n ≠ -1 := by omega
      have hne2 : (n == -1) = false := by simpa using hne
      rw [if_neg hne] at ho
      obtain ⟨ys, hys⟩ : ∃ ys, ys = Lib.encodeRune r := ⟨_, rfl⟩
      rw [← hys] at ho
      subst ho
      have hyl : (Lib.runeCells r).length = ys.length := by rw [hys]; exact Lib.runeCells_length r
      have hyc : Lib.runeCells r = Lib.byteCells ys := by rw [hys]; exact (Lib.byteCells_encodeRune r).symm
      have h4 : (Lib.runeCells r).length ≤ 4 := (Lib.runeCells_le r).2
      have CE : Hid (∀ W2, Below W1.heap.size W1 W2 → Calls Tryd.prog 107 #[.slice (some ⟨h, p, none⟩) m m, .int .i32 r] W2 fun e w3 => e = .returned (.int .i64 (ys.length : Int)) ∧ w3 = W2.setCells h p (Lib.byteCells ys)) := Lib.hid fun W2 hb => by
        have hlm : (Lib.runeCells r).length ≤ m := by rcases hn with hn | hn <;> (simp only [List.length_cons] at hn; omega)
        have hk : ∀ j, j < (Lib.runeCells r).length → (W2.cell? ⟨h, p + j, none⟩).isSome = true ∧ W2.frozen? ⟨h, p + j, none⟩ = false := fun j hj => by
          obtain ⟨h1, h2⟩ := HC1.out j (by omega)
          obtain ⟨v, hv⟩ := Option.isSome_iff_exists.1 h1
          exact ⟨by rw [(hb.cell (World.block_lt_of_cell? W1 _ hv)).trans hv]; rfl, (hb.frozen (World.block_lt_of_cell? W1 _ hv)).trans h2⟩
        have hq := Any7.utf8_EncodeRune lays7_30 h p m m r HRR.out.1 HRR.out.2 W2 hlm (fun j hj => (hk j hj).1) (fun j hj => (hk j hj).2)
        rw [hyl, hyc] at hq
        exact hq
      clear HC1 hyl hyc hys h4 HRR hne
      have hnz : ((n.toNat : Nat) : Int) = n := by omega
      clear hn
      go_wp2_with (first | (go_at_call 106; refine CD.out.mono ?_; rintro e w2 ⟨rfl, ⟨⟨q, rfl⟩⟩⟩) | (go_at_call 107; refine (CE.out _ (jq_drewN (Below.refl _ _) _)).mono ?_; rintro e w3 ⟨rfl, rfl⟩) | fail)
      go_ret2
      exact ⟨by first | (rw [hnz]; done) | (rw [hnz]; rfl), _, jq_drewN HB.out _, rfl⟩
  have b34 : ((c.toNat : Int) == 34) = false := jq_not (n := 34) (by decide) h34
  have b92 : ((c.toNat : Int) == 92) = false := jq_not (n := 92) (by decide) h92
  have b47 : ((c.toNat : Int) == 47) = false := jq_not (n := 47) (by decide) h47
  have b98 : ((c.toNat : Int) == 98) = false := jq_not (n := 98) (by decide) h98
  have b102 : ((c.toNat : Int) == 102) = false := jq_not (n := 102) (by decide) h102
  have b110 : ((c.toNat : Int) == 110) = false := jq_not (n := 110) (by decide) h110
  have b114 : ((c.toNat : Int) == 114) = false := jq_not (n := 114) (by decide) h114
  have b116 : ((c.toNat : Int) == 116) = false := jq_not (n := 116) (by decide) h116
  have b39 : ((c.toNat : Int) == 39) = false := jq_not (n := 39) (by decide) h39
  have b117 : ((c.toNat : Int) == 117) = false := jq_not (n := 117) (by decide) h117
  have ho : o = none := by
    have h2 := HO.out
    unfold escF at h2
    simp only at h2
    rw [if_neg h34, if_neg h92, if_neg h47, if_neg h98, if_neg h102, if_neg h110, if_neg h114, if_neg h116, if_neg h117] at h2
    exact h2
  subst ho
  have a1 : W1.cell? ⟨A.block, A.off + 1, none⟩ = some (.int .u8 (c.toNat : Int)) := H1.out c rfl
  clear HO H1 HG1 HC1 HR1 h34 h92 h47 h98 h102 h110 h114 h116 h39 h117
  go_wp2
  go_ret2
  exact ⟨rfl, HB.out⟩
end Go.Proofs.YtnidncohhinjbaaDoor
