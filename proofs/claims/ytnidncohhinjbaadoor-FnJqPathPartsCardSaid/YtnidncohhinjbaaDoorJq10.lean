/- The walks of jsonparser's CompilePath and Parts, and of impl's two doors over ParsePath and CompilePath. Conditions: the text takes at most 1000 bytes; the package's variables hold what their initialisers lay. -/
import Derived.Test.YtnidncohhinjbaaDoorJq9
namespace Go.Proofs.YtnidncohhinjbaaDoor
open Go.RowKit Go.Proofs.YtnidncohhinjbaaDoorW.PrintWords

abbrev RS (w : World) (base : Nat) (v : Value) (l : List ByteArray) : Prop := Kd.string.R 9 w base (fun _ => True) v l

theorem RS.set {w : World} {base g j : Nat} {v u : Value} {l : List ByteArray} (h : RS w base v l) (hg : g < base) : RS (w.setCell ⟨g, j, none⟩ u) base v l :=
  Kd.R_mono (Kd.R_far (p := ⟨g, j, none⟩) (Kd.R_bound h) (fun k hk => by have := hk.2.1; simp only; omega) u) (fun _ _ => trivial)

theorem parts_copy (l : List ByteArray) (A : Option Addr) (c base : Nat) (W W1 : World) (h : RS W base (.slice A l.length c) l) (hw : W1 = W.alloc (.cells (madeCells #[.string ⟨#[]⟩] l.length) 9)) (hl : l.length ≤ 140737488351232) (ty : TypeId) :
    ∃ w', (Builtin.copy_ #[22, 22] ty #[.slice (some ⟨W.heap.size, 0, none⟩) l.length l.length, .slice A l.length c]).run Tryd.prog W1 = .ok (.int .i64 (l.length : Int)) w' ∧ RS w' W.heap.size (.slice (some ⟨W.heap.size, 0, none⟩) l.length l.length) l ∧ Below W.heap.size W w' := by
  have hs : (Tryd.prog.info? 9).map (·.size) = some 1 := by kernel_rfl
  have ho := Kd.own_of_R h
  have hb1 : Below W.heap.size W W1 := by rw [hw]; exact (Below.refl _ _).alloc (Nat.le_refl _) _
  have hh : W1.heap[W.heap.size]? = some (.cells (madeCells #[.string ⟨#[]⟩] l.length) 9 (0, 0)) := by rw [hw]; exact heap_alloc_new W _
  have hlen : (encs Value.string l).length = l.length := by simp [encs]
  cases A with
  | none =>
    have hl0 : l = [] := by
      rcases ho.2 with ⟨_, h2⟩ | ⟨g, cap, cur, h2, _⟩
      · exact List.length_eq_zero_iff.1 h2
      · cases h2
    subst hl0
    refine ⟨W1, run_copy_none (P := Tryd.prog) W1 22 22 ty 9 _ _ _ _ _ _ Tryd.underlying22 hs (by simp), ?_, hb1⟩
    exact Kd.R_of_own ⟨by simp [encs], .inr ⟨W.heap.size, 0, _, rfl, Nat.le_refl _, hh, Nat.le_refl _, by simp [maxLen], by simp [madeCells], by simp [encs]⟩⟩ (fun _ _ => trivial)
  | some ad =>
    obtain ⟨g, rfl⟩ := Kd.R_head h
    have hc := ho.cells (g := g) rfl
    have hsz : (madeCells #[Value.string ⟨#[]⟩] l.length).size = l.length := by simp [madeCells]
    have h1 := run_copy_row (P := Tryd.prog) W1 22 22 ty 9 W.heap.size 0 l.length l.length ⟨g, 0, none⟩ l.length c _ 9 (encs Value.string l) Tryd.underlying22 hs hh (by rw [hlen]; exact (Nat.min_self _).symm)
      (fun j u hj => (hb1.cell (World.block_lt_of_cell? W _ (hc j u hj))).trans (hc j u hj)) (by rw [hsz, hlen]; omega) (fun u hu' => by obtain ⟨x, _, rfl⟩ := List.mem_map.1 hu'; rfl)
    rw [hlen] at h1
    refine ⟨_, h1, ?_, ?_⟩
    · refine Kd.R_of_own ⟨by simp [encs], .inr ⟨W.heap.size, l.length, _, rfl, Nat.le_refl _, setRow_heap _ _ _ _ _ _ hh, Nat.le_refl _, by simp only [maxLen]; omega, ?_, ?_⟩⟩ (fun _ _ => trivial)
      · simp [encs, madeCells]
      · simp [encs]
    · exact hb1.trans ⟨rfl, rfl, rfl, by simp, fun k hk => setRow_other _ _ _ _ (by omega)⟩

set_option maxHeartbeats 1000000 in
set_option maxRecDepth 100000 in
theorem parts_any (l : List ByteArray) (v : Value) (base : Nat) (w : World) (h : RS w base v l) (hl : l.length ≤ 1000) :
    Calls Tryd.prog 27 #[.agg #[v]] w fun e w' => ∃ v', e = .returned v' ∧ RS w' w.heap.size v' l ∧ Below w.heap.size w w' := by
  obtain ⟨A, c, rfl⟩ := Kd.R_slice h
  have hmk := print_make_of (P := Tryd.prog) 22 9 (.string ⟨#[]⟩) 16 Tryd.underlying22 jq_infoS rfl (by decide) l.length (by omega)
  have HK := Lib.hid fun W1 hw => parts_copy l A c base (w.alloc (.cells #[.slice A l.length c] 52)) W1 (Kd.R_below h ((Below.refl _ _).alloc (Nat.le_refl _) _)) hw (by omega)
  clear h
  go_enter Tryd.func27, Tryd.ntmps27
  obtain ⟨w', hr, hR, hb⟩ := HK.out _ rfl 3
  rw [show (w.alloc (.cells #[.slice A l.length c] 52)).heap.size = w.heap.size + 1 by simp] at hr hR hb
  have HR := Lib.hid hR
  have HB := Lib.hid hb
  clear hR hb HK
  go_wp2_with (first | (at_builtin; refine Lib.wpList_copy_run _ rfl _ _ 22 22 rfl _ _ rfl rfl hr ?_) | fail)
  go_ret
  exact ⟨_, rfl, Kd.R_lower HR.out (Nat.le_succ _), ((Below.refl _ _).alloc (Nat.le_refl _) _).trans (HB.out.mono (Nat.le_succ _))⟩

def CPost (o : Option (List ByteArray)) (W : World) : Ending → World → Prop := fun e w' => Below W.heap.size W w' ∧
  match o with
  | some l => ∃ v, e = .returned (.tuple #[.agg #[v], .nilIface]) ∧ RS w' W.heap.size v l
  | none => ∃ t p, e = .returned (.tuple #[.agg #[.slice none 0 0], .iface t p])

theorem jq_results {P : Program} {fn : Func} {p u : Tmp} {ty : TypeId} (h : fn.results = #[.cell p ty, .tmp u]) (tmps : Array Value) (w : World) (g : Nat) (t : TypeId) (cs : Array Value) (fr : Nat × Nat) (d : TypeDesc)
    (hp : tmps.getD p undef = .pointer (some ⟨g, 0, none⟩)) (hg : w.heap[g]? = some (.cells cs t fr))
    (hu : P.underlying ty = some d) (hd : (match d with | .struct _ | .array _ _ => true | _ => false) = true) (hi : (P.info? ty).map (·.size) = some cs.size) :
    (results fn tmps).run P w = .ok (.tuple #[.agg cs, tmps.getD u undef]) w := by
  have hp' : tmps[p]?.getD undef = .pointer (some ⟨g, 0, none⟩) := by simpa using hp
  simp [results, h, hp', asAddr, run_loadVar_row w g t ty cs fr d hg hu hd hi]

set_option maxHeartbeats 1000000 in
set_option maxRecDepth 100000 in
theorem compile_any (p : ByteArray) (w : World) (hs : p.size ≤ 1000) (hG : GLAll w) :
    Calls Tryd.prog 26 #[.string p] w (CPost (pathF unU p) w) := by
  obtain ⟨W1, hW1⟩ : ∃ W1, W1 = w.alloc (.cells #[.slice none 0 0] 52) := ⟨_, rfl⟩
  have hb : Below w.heap.size w W1 := by rw [hW1]; exact (Below.refl _ _).alloc (Nat.le_refl _) _
  have hz : W1.heap.size = w.heap.size + 1 := by rw [hW1]; simp
  have HC := Lib.hid (path_any p W1 hs (hG.keep hb))
  have h0 : W1.heap[w.heap.size]? = some (.cells #[.slice none 0 0] 52 (0, 0)) := by rw [hW1]; exact heap_alloc_new w _
  generalize pathF unU p = o at HC
  have HB := Lib.hid hb
  have H0 := Lib.hid h0
  have HZ := Lib.hid hz
  clear hb h0 hG hz
  cases o with
  | none =>
    unfold PathPost at HC
    go_enter Tryd.func26, Tryd.ntmps26
    go_upto_region 1 with fail
    rw [← hW1]
    clear hW1
    go_wp2_with (first | (go_at_call 25; refine HC.out.mono ?_; rintro e w2 ⟨hb2, t, q, rfl⟩; have HB2 := Lib.hid hb2; have h2 := cell_of_row _ w.heap.size 0 _ _ _ ((hb2.block _ (by have := HZ.out; omega)).trans H0.out); have f2 := Go.frozen_of_row _ w.heap.size 0 _ _ ((hb2.block _ (by have := HZ.out; omega)).trans H0.out); clear hb2) | fail)
    refine bodyPost_ret (jq_results rfl _ _ w.heap.size 52 _ (0, 0) _ rfl (heap_setCell_same _ w.heap.size 0 _ _ (.slice none 0 0) ((HB2.out.block _ (by have := HZ.out; omega)).trans H0.out)) Tryd.underlying52 rfl (by kernel_rfl)) rfl ?_
    exact ⟨(HB.out.trans (HB2.out.mono (by have := HZ.out; omega))).setCell (Nat.le_refl _) _, _, _, rfl⟩
  | some l =>
    unfold PathPost at HC
    go_enter Tryd.func26, Tryd.ntmps26
    go_upto_region 1 with fail
    rw [← hW1]
    clear hW1
    go_wp2_with (first | (go_at_call 25; refine HC.out.mono ?_; rintro e w2 ⟨hb2, v, rfl, hR⟩; obtain ⟨A, c, rfl⟩ := Kd.R_slice hR; have HB2 := Lib.hid hb2; have HR := Lib.hid hR; have h2 := cell_of_row _ w.heap.size 0 _ _ _ ((hb2.block _ (by have := HZ.out; omega)).trans H0.out); have f2 := Go.frozen_of_row _ w.heap.size 0 _ _ ((hb2.block _ (by have := HZ.out; omega)).trans H0.out); clear hb2 hR) | fail)
    refine bodyPost_ret (jq_results rfl _ _ w.heap.size 52 _ (0, 0) _ rfl (heap_setCell_same _ w.heap.size 0 _ _ _ ((HB2.out.block _ (by have := HZ.out; omega)).trans H0.out)) Tryd.underlying52 rfl (by kernel_rfl)) rfl ?_
    have hz := HZ.out
    refine ⟨(HB.out.trans (HB2.out.mono (by omega))).setCell (Nat.le_refl _) _, _, rfl, ?_⟩
    exact Kd.R_lower (RS.set HR.out (by omega)) (by omega)

/-- The doors. -/
def pathR (s : ByteArray) : List ByteArray × Bool := match pathF unU s with | some l => (l, true) | none => ([], false)
def impl_JqParsePath.f (s : ByteArray) : Option (List ByteArray × Bool) := if s.size ≤ 1000 then some (pathR s) else none
def impl_JqPathParts.f (s : ByteArray) : Option (List ByteArray × Bool) := if s.size ≤ 1000 then some (pathR s) else none

set_option maxHeartbeats 1000000 in
theorem impl_JqParsePath.calls (s : ByteArray) (r1 : List ByteArray) (r2 : Bool) (w : World) (hG : GLAll w) (h : impl_JqParsePath.f s = some (r1, r2)) :
    Calls Tryd.prog 11 #[.string s] w fun e w' => ∃ v1_ : Value, e = .returned (.tuple #[v1_, .bool r2]) ∧ Kd.string.R 9 w' w.heap.size (fun _ => True) v1_ r1 ∧ Below w.heap.size w w' := by
  unfold impl_JqParsePath.f at h
  by_cases hs : s.size ≤ 1000
  · rw [if_pos hs] at h
    have HC := Lib.hid (path_any s w hs hG)
    unfold pathR at h
    generalize pathF unU s = o at h HC
    clear hs hG
    cases o with
    | some t =>
      simp only [Option.some.injEq, Prod.mk.injEq] at h
      obtain ⟨rfl, rfl⟩ := h
      go_enter Tryd.func11, Tryd.ntmps11
      go_wp2_with (first | (go_at_call 25; refine HC.out.mono ?_; rintro e w' ⟨hb, v, rfl, hR⟩; have HB := Lib.hid hb; have HR := Lib.hid hR; clear hb hR) | fail)
      go_quiet (fail)
      go_wp2
      go_ret2
      exact ⟨_, rfl, Kd.R_drewN HR.out _, jq_drewN HB.out _⟩
    | none =>
      simp only [Option.some.injEq, Prod.mk.injEq] at h
      obtain ⟨rfl, rfl⟩ := h
      go_enter Tryd.func11, Tryd.ntmps11
      go_wp2_with (first | (go_at_call 25; refine HC.out.mono ?_; rintro e w' ⟨hb, t, q, rfl⟩; have HB := Lib.hid hb; clear hb) | fail)
      go_quiet (fail)
      go_wp2
      go_ret2
      exact ⟨_, rfl, Kd.R_nil _ _ _ _ _, jq_drewN HB.out _⟩
  · rw [if_neg hs] at h; simp at h

theorem brsL_length : ∀ (k : Nat) (p : ByteArray) (i : Nat) (acc l : List ByteArray) (n : Nat), acc.length ≤ i → i ≤ p.size → brsL k p i acc = some (l, n) → l.length ≤ n ∧ n ≤ p.size ∧ i ≤ n
  | 0, _, _, _, _, _, _, _, h => by simp [brsL] at h
  | k + 1, p, i, acc, l, n, ha, hi, h => by
    unfold brsL at h
    split at h
    · split at h
      · split at h
        · rename_i c m hb
          have h1 := brF_lt hb
          have := brsL_length k p m (acc ++ [c]) l n (by rw [List.length_append, List.length_singleton]; omega) h1.2 h
          omega
        · cases h
      · obtain ⟨rfl, rfl⟩ := Prod.mk.inj (Option.some.inj h)
        omega
    · obtain ⟨rfl, rfl⟩ := Prod.mk.inj (Option.some.inj h)
      omega
theorem pathL_length (U : ByteArray → Option ByteArray) : ∀ (k : Nat) (p : ByteArray) (i : Nat) (acc l : List ByteArray), acc.length ≤ i → i ≤ p.size → pathL U k p i acc = some l → l.length ≤ p.size
  | 0, _, _, _, _, _, _, h => by simp [pathL] at h
  | k + 1, p, i, acc, l, ha, hi, h => by
    by_cases hlt : i < p.size
    · rw [pathL_step U k p i acc hlt] at h
      have hfirst : ∀ acc1 i1, firstP U p i acc = some (acc1, i1) → acc1.length ≤ i1 ∧ i1 ≤ p.size := by
        intro acc1 i1 hf
        unfold firstP at hf
        rw [dif_pos hlt] at hf
        split at hf
        · cases hf
        · split at hf
          · split at hf
            · rename_i y n hq
              have h1 := qkF_lt hq
              obtain ⟨rfl, rfl⟩ := Prod.mk.inj (Option.some.inj hf)
              rw [List.length_append, List.length_singleton]
              omega
            · cases hf
          · split at hf
            · obtain ⟨rfl, rfl⟩ := Prod.mk.inj (Option.some.inj hf)
              omega
            · split at hf
              · rename_i e hk
                have h1 := keyEnd_le _ _ _ _ (Nat.le_of_lt hlt) hk
                split at hf
                · cases hf
                · obtain ⟨rfl, rfl⟩ := Prod.mk.inj (Option.some.inj hf)
                  rw [List.length_append, List.length_singleton]
                  omega
              · cases hf
      cases hf : firstP U p i acc with
      | none => rw [hf] at h; cases h
      | some z =>
        obtain ⟨acc1, i1⟩ := z
        rw [hf] at h
        simp only at h
        have h1 := hfirst acc1 i1 hf
        cases hb : brsL (p.size + 1) p i1 acc1 with
        | none => rw [hb] at h; cases h
        | some z =>
          obtain ⟨acc2, i2⟩ := z
          have h2 := brsL_length _ _ _ _ _ _ h1.1 h1.2 hb
          rw [hb, restP_some] at h
          split at h
          · split at h
            · split at h
              · cases h
              · exact pathL_length U k p (i2 + 1) acc2 l (by omega) (by omega) h
            · cases h
          · split at h
            · cases h
            · obtain rfl := Option.some.inj h
              omega
    · rw [pathL_end U k p i acc hlt] at h
      split at h
      · cases h
      · obtain rfl := Option.some.inj h
        omega
theorem pathF_length (U : ByteArray → Option ByteArray) {p : ByteArray} {l : List ByteArray} (h : pathF U p = some l) : l.length ≤ p.size := by
  have hb : ∀ q : ByteArray, pathBody U q = some l → l.length ≤ q.size := by
    intro q hq
    unfold pathBody at hq
    split at hq
    · cases hq
    · exact pathL_length U _ q 0 [] l (Nat.le_refl _) (Nat.zero_le _) hq
  unfold pathF at h
  split at h
  · split at h
    · split at h
      · split at h
        · have := hb _ h
          rw [ByteArray.size_extract] at this
          omega
        · split at h
          · have := hb _ h
            rw [ByteArray.size_extract] at this
            omega
          · cases h
      · obtain rfl := Option.some.inj h
        exact Nat.zero_le _
    · exact hb _ h
  · cases h

set_option maxHeartbeats 1000000 in
set_option maxRecDepth 100000 in
theorem impl_JqPathParts.calls (s : ByteArray) (r1 : List ByteArray) (r2 : Bool) (w : World) (hG : GLAll w) (h : impl_JqPathParts.f s = some (r1, r2)) :
    Calls Tryd.prog 12 #[.string s] w fun e w' => ∃ v1_ : Value, e = .returned (.tuple #[v1_, .bool r2]) ∧ Kd.string.R 9 w' w.heap.size (fun _ => True) v1_ r1 ∧ Below w.heap.size w w' := by
  unfold impl_JqPathParts.f at h
  by_cases hs : s.size ≤ 1000
  · rw [if_pos hs] at h
    have HC := Lib.hid (compile_any s w hs hG)
    unfold pathR at h
    have HL : ∀ l, pathF unU s = some l → l.length ≤ 1000 := fun l hl => Nat.le_trans (pathF_length unU hl) hs
    generalize pathF unU s = o at h HC HL
    have HL := Lib.hid HL
    clear hs hG
    cases o with
    | some t =>
      have hl := HL.out t rfl
      simp only [Option.some.injEq, Prod.mk.injEq] at h
      obtain ⟨rfl, rfl⟩ := h
      have HP := Lib.hid fun v base w (hv : RS w base v t) => parts_any t v base w hv hl
      clear hl HL
      go_enter Tryd.func12, Tryd.ntmps12
      go_wp2_with (first | (go_at_call 26; refine HC.out.mono ?_; rintro e w1 ⟨hb, v, rfl, hR⟩; obtain ⟨A, c, rfl⟩ := Kd.R_slice hR; have HB := Lib.hid (hb.alloc hb.size (.cells #[.slice A t.length c] 52)); have HC2 := Lib.hid (HP.out _ _ (w1.alloc (.cells #[.slice A t.length c] 52)) (Kd.R_below hR ((Below.refl _ _).alloc (Nat.le_refl _) _))); clear hb hR) | (go_at_call 27; refine HC2.out.mono ?_; rintro e w2 ⟨v2, rfl, hR2, hb2⟩; have HR2 := Lib.hid hR2; have HB2 := Lib.hid hb2; clear hR2 hb2) | fail)
      go_ret2
      exact ⟨_, rfl, Kd.R_lower HR2.out HB.out.size, HB.out.trans (HB2.out.mono HB.out.size)⟩
    | none =>
      simp only [Option.some.injEq, Prod.mk.injEq] at h
      obtain ⟨rfl, rfl⟩ := h
      clear HL
      go_enter Tryd.func12, Tryd.ntmps12
      go_wp2_with (first | (go_at_call 26; refine HC.out.mono ?_; rintro e w1 ⟨hb, t, q, rfl⟩; have HB := Lib.hid hb; clear hb) | fail)
      go_ret2
      exact ⟨_, rfl, Kd.R_nil _ _ _ _ _, HB.out.alloc HB.out.size _⟩
  · rw [if_neg hs] at h; simp at h
end Go.Proofs.YtnidncohhinjbaaDoor
