/- The walk of json-patch's door DoorMerge. Condition: trees of at most 2^40. -/
import Derived.Test.YtdjogkfgegopfaaDoorHd
namespace Go.Proofs.YtdjogkfgegopfaaDoor
open Go.RowKit Go.Maps Go.Proofs.YtdjogkfgegopfaaDoor.MFnPaMergeAgain Go.Proofs.YtdjogkfgegopfaaDoor.Pure Go.Proofs.YtdjogkfgegopfaaDoorW.PrintWords Go.Proofs.YtdjogkfgegopfaaDoorW.PrintLast
set_option linter.unusedVariables false
set_option linter.unusedSimpArgs false

/-- The four cells of a node at block b. -/
def At4 (W : World) (b : Nat) (c0 c1 c2 c3 : Value) : Prop := W.cell? ⟨b, 0, none⟩ = some c0 ∧ W.cell? ⟨b, 1, none⟩ = some c1 ∧ W.cell? ⟨b, 2, none⟩ = some c2 ∧ W.cell? ⟨b, 3, none⟩ = some c3
theorem at4 {W : World} {b E : Nat} {c0 c1 c2 c3 : Value} (h : W.heap[b]? = some (.cells #[c0, c1, c2, c3] E (0, 0))) : At4 W b c0 c1 c2 c3 :=
  ⟨cell_of_row _ _ 0 _ _ _ h, cell_of_row _ _ 1 _ _ _ h, cell_of_row _ _ 2 _ _ _ h, cell_of_row _ _ 3 _ _ _ h⟩

def DMPost (w : World) (d p : S25) (L : Nat) : Ending → World → Prop := fun e w' => ∃ R, MergeTo d p R ∧ tidy L R ∧ TreePost w Nil R e w'

theorem dm_end {w w1 w4 w5 : World} {d p R : S25} {L : Nat} {cs : List Value} (c0 c1 c2 c3 : Value)
    (hm : MergeTo d p R) (ht : tidy L R) (hb4 : Below w1.heap.size w1 w4) (hx : TR w5 (fun i => Nil i ∨ New w4 i) R cs) (hb5 : Below w4.heap.size w4 w5) (hb : Below w.heap.size w w1 ∧ w1.heap.size = w.heap.size + 4) :
    DMPost w d p L (.returned (.agg cs.toArray)) ((((w5.setCell ⟨w.heap.size + 1 + 1, 0, none⟩ c0).setCell ⟨w.heap.size + 1 + 1, 1, none⟩ c1).setCell ⟨w.heap.size + 1 + 1, 2, none⟩ c2).setCell ⟨w.heap.size + 1 + 1, 3, none⟩ c3) := by
  have ho := only4 w5 (w.heap.size + 1 + 1) c0 c1 c2 c3
  have s4 := hb4.size
  have s5 := hb5.size
  have hz := hb.2
  refine ⟨R, hm, ht, cs, rfl, hx.step ho (fun i hi hs q => ?_) (fun i hi hs => ?_), (hb.1.trans ((hb4.trans (hb5.mono s4)).mono (by omega))).trans (ho.below (fun i hi q => by omega) (by omega))⟩
  · rcases hs with hs | hs
    · exact hs
    · unfold New at hs; omega
  · rcases hs with hs | hs
    · exact hs.elim
    · exact .inr (by unfold New at *; omega)

theorem dm_merge (B L1 L2 : Nat) (hL : L1 + L2 ≤ 1099511627776) (d p : S25) (htd : tidy L1 d) (htp : tidy L2 p) (w1 w2 w3 : World) (o x1 x2 : Nat) (h1 : Top w2 (pv x1) d (New w1)) (hb1 : Below w1.heap.size w1 w2) (h2 : Top w3 (pv x2) p (New w2)) (hb2 : Below w2.heap.size w2 w3) (hG : GLp B w1) (ho : o < w1.heap.size) (hcell : w1.cell? ⟨o, 2, none⟩ = some (.bool false)) :
    Calls Tryd.prog 41 #[pv x1, pv x2, .bool false, pv o] w3 (fun e w4 => ∃ r R, e = .returned (pv r) ∧ MergeTo d p R ∧ tidy (L1 + L2) R ∧ (∃ S, Top w4 (pv r) R S) ∧ Below w1.heap.size w1 w4) := by
  have s1 := hb1.size
  have s2 := hb2.size
  have hb := hb1.trans (hb2.mono s1)
  have hBs := hG.1
  refine (mergeTop_any B L1 L2 hL p d (pv x2) (pv x1) w3 (fun i => New w1 i ∧ i < w2.heap.size) (New w2) o htd htp (h1.step (O := fun _ => False) (Only.of_below hb2) (fun _ _ _ q => q) (fun i hi q => ⟨q, hi⟩)) h2 (fun i q q2 => by unfold New at q2; omega) (hG.below hb) (fun i q => ?_) (by omega) ((hb.cell (p := ⟨o, 2, none⟩) ho).trans hcell)).mono ?_
  · rcases q with ⟨q, _⟩ | q
    · unfold New at q; omega
    · unfold New at q; omega
  · rintro e w4 ⟨r, R, rfl, q1, q2, q3, q4⟩
    refine ⟨r, R, rfl, q1, q2, ⟨_, q3⟩, hb.trans (q4.below (fun i hi q => ?_) (by omega))⟩
    rcases q with ⟨q, _⟩ | q
    · unfold New at q; omega
    · unfold New at q; omega

set_option maxRecDepth 1000000 in
set_option maxHeartbeats 4000000 in
theorem doorMerge_any (B L1 L2 : Nat) (hL : L1 + L2 ≤ 1099511627776) (d p : S25) (cd cp : List Value) (w : World) (htd : tidy L1 d) (htp : tidy L2 p) (hd : TR w (All w) d cd) (hp : TR w (All w) p cp) (hG : GLp B w) :
    Calls Tryd.prog 20 #[.agg cd.toArray, .agg cp.toArray] w (DMPost w d p (L1 + L2)) := by
  obtain ⟨A2, A3, a2, a3, rfl, -, -⟩ := id hd.cells
  obtain ⟨B2, B3, b2, b3, rfl, -, -⟩ := id hp.cells
  obtain ⟨n2, hn2⟩ : ∃ n, d.f2.length = n := ⟨_, rfl⟩
  obtain ⟨n3, hn3⟩ : ∃ n, d.f3.length = n := ⟨_, rfl⟩
  obtain ⟨m2, hm2⟩ : ∃ n, p.f2.length = n := ⟨_, rfl⟩
  obtain ⟨m3, hm3⟩ : ∃ n, p.f3.length = n := ⟨_, rfl⟩
  obtain ⟨k, hk⟩ : ∃ x, d.f0 = x := ⟨_, rfl⟩
  obtain ⟨t, ht⟩ : ∃ x, d.f1 = x := ⟨_, rfl⟩
  obtain ⟨k', hk'⟩ : ∃ x, p.f0 = x := ⟨_, rfl⟩
  obtain ⟨t', ht'⟩ : ∃ x, p.f1 = x := ⟨_, rfl⟩
  rw [hk, ht, hn2, hn3] at hd ⊢
  rw [hk', ht', hm2, hm3] at hp ⊢
  obtain ⟨w1, hw1⟩ : ∃ W : World, (((w.alloc (.cells #[.int .i64 k, .string t, .slice A2 n2 a2, .slice A3 n3 a3] 42)).alloc (.cells #[.int .i64 k', .string t', .slice B2 m2 b2, .slice B3 m3 b3] 42)).alloc (.cells #[.int .i64 0, .string ⟨#[]⟩, .slice none 0 0, .slice none 0 0] 42)).alloc (.cells #[.bool true, .int .i64 0, .bool false, .bool false, .bool true] 57) = W := ⟨_, rfl⟩
  have hb : Below w.heap.size w w1 := by
    rw [← hw1]
    exact ((((Below.refl _ _).alloc (Nat.le_refl _) _).alloc (by simp) _).alloc (by simp <;> omega) _).alloc (by simp <;> omega) _
  have hz : w1.heap.size = w.heap.size + 4 := by rw [← hw1]; simp
  have hr0 : w1.heap[w.heap.size]? = some (.cells #[.int .i64 k, .string t, .slice A2 n2 a2, .slice A3 n3 a3] 42 (0, 0)) := by
    rw [← hw1, Below.heap_alloc _ _ _ (by simp <;> omega), Below.heap_alloc _ _ _ (by simp <;> omega), Below.heap_alloc _ _ _ (by simp)]; exact heap_alloc_new w _
  have hr1 : w1.heap[w.heap.size + 1]? = some (.cells #[.int .i64 k', .string t', .slice B2 m2 b2, .slice B3 m3 b3] 42 (0, 0)) := by
    rw [← hw1, Below.heap_alloc _ _ _ (by simp <;> omega), Below.heap_alloc _ _ _ (by simp)]; simpa using heap_alloc_new (w.alloc (.cells #[.int .i64 k, .string t, .slice A2 n2 a2, .slice A3 n3 a3] 42)) _
  have hr2 : w1.heap[w.heap.size + 1 + 1]? = some (.cells #[.int .i64 0, .string ⟨#[]⟩, .slice none 0 0, .slice none 0 0] 42 (0, 0)) := by
    rw [← hw1, Below.heap_alloc _ _ _ (by simp)]; simpa using heap_alloc_new ((w.alloc (.cells #[.int .i64 k, .string t, .slice A2 n2 a2, .slice A3 n3 a3] 42)).alloc (.cells #[.int .i64 k', .string t', .slice B2 m2 b2, .slice B3 m3 b3] 42)) _
  have hr3 : w1.heap[w.heap.size + 1 + 1 + 1]? = some (.cells #[.bool true, .int .i64 0, .bool false, .bool false, .bool true] 57 (0, 0)) := by
    rw [← hw1]; simpa using heap_alloc_new (((w.alloc (.cells #[.int .i64 k, .string t, .slice A2 n2 a2, .slice A3 n3 a3] 42)).alloc (.cells #[.int .i64 k', .string t', .slice B2 m2 b2, .slice B3 m3 b3] 42)).alloc (.cells #[.int .i64 0, .string ⟨#[]⟩, .slice none 0 0, .slice none 0 0] 42)) _
  have HC : Hid (∀ W, Below w1.heap.size w1 W → (W.cell? ⟨w.heap.size, 0, none⟩ = some (.int .i64 k) ∧ W.cell? ⟨w.heap.size, 1, none⟩ = some (.string t) ∧ W.cell? ⟨w.heap.size, 2, none⟩ = some (.slice A2 n2 a2) ∧ W.cell? ⟨w.heap.size, 3, none⟩ = some (.slice A3 n3 a3) ∧ W.cell? ⟨w.heap.size + 1, 0, none⟩ = some (.int .i64 k') ∧ W.cell? ⟨w.heap.size + 1, 1, none⟩ = some (.string t') ∧ W.cell? ⟨w.heap.size + 1, 2, none⟩ = some (.slice B2 m2 b2) ∧ W.cell? ⟨w.heap.size + 1, 3, none⟩ = some (.slice B3 m3 b3)) ∧ W.heap[w.heap.size + 1 + 1]? = some (.cells #[.int .i64 0, .string ⟨#[]⟩, .slice none 0 0, .slice none 0 0] 42 (0, 0))) := Lib.hid fun W hW => by
    have e1 := (hW.block _ (by omega)).trans hr0
    have e2 := (hW.block _ (by omega)).trans hr1
    exact ⟨⟨cell_of_row _ _ 0 _ _ _ e1, cell_of_row _ _ 1 _ _ _ e1, cell_of_row _ _ 2 _ _ _ e1, cell_of_row _ _ 3 _ _ _ e1, cell_of_row _ _ 0 _ _ _ e2, cell_of_row _ _ 1 _ _ _ e2, cell_of_row _ _ 2 _ _ _ e2, cell_of_row _ _ 3 _ _ _ e2⟩, (hW.block _ (by omega)).trans hr2⟩
  have HE : Hid (∀ W (a b c d : Value), Below w1.heap.size w1 W → (((((W.setCell ⟨w.heap.size + 1 + 1, 0, none⟩ a).setCell ⟨w.heap.size + 1 + 1, 1, none⟩ b).setCell ⟨w.heap.size + 1 + 1, 2, none⟩ c).setCell ⟨w.heap.size + 1 + 1, 3, none⟩ d).cell? ⟨w.heap.size, 0, none⟩ = some (.int .i64 k) ∧ ((((W.setCell ⟨w.heap.size + 1 + 1, 0, none⟩ a).setCell ⟨w.heap.size + 1 + 1, 1, none⟩ b).setCell ⟨w.heap.size + 1 + 1, 2, none⟩ c).setCell ⟨w.heap.size + 1 + 1, 3, none⟩ d).cell? ⟨w.heap.size, 1, none⟩ = some (.string t) ∧ ((((W.setCell ⟨w.heap.size + 1 + 1, 0, none⟩ a).setCell ⟨w.heap.size + 1 + 1, 1, none⟩ b).setCell ⟨w.heap.size + 1 + 1, 2, none⟩ c).setCell ⟨w.heap.size + 1 + 1, 3, none⟩ d).cell? ⟨w.heap.size, 2, none⟩ = some (.slice A2 n2 a2) ∧ ((((W.setCell ⟨w.heap.size + 1 + 1, 0, none⟩ a).setCell ⟨w.heap.size + 1 + 1, 1, none⟩ b).setCell ⟨w.heap.size + 1 + 1, 2, none⟩ c).setCell ⟨w.heap.size + 1 + 1, 3, none⟩ d).cell? ⟨w.heap.size, 3, none⟩ = some (.slice A3 n3 a3) ∧ ((((W.setCell ⟨w.heap.size + 1 + 1, 0, none⟩ a).setCell ⟨w.heap.size + 1 + 1, 1, none⟩ b).setCell ⟨w.heap.size + 1 + 1, 2, none⟩ c).setCell ⟨w.heap.size + 1 + 1, 3, none⟩ d).cell? ⟨w.heap.size + 1, 0, none⟩ = some (.int .i64 k') ∧ ((((W.setCell ⟨w.heap.size + 1 + 1, 0, none⟩ a).setCell ⟨w.heap.size + 1 + 1, 1, none⟩ b).setCell ⟨w.heap.size + 1 + 1, 2, none⟩ c).setCell ⟨w.heap.size + 1 + 1, 3, none⟩ d).cell? ⟨w.heap.size + 1, 1, none⟩ = some (.string t') ∧ ((((W.setCell ⟨w.heap.size + 1 + 1, 0, none⟩ a).setCell ⟨w.heap.size + 1 + 1, 1, none⟩ b).setCell ⟨w.heap.size + 1 + 1, 2, none⟩ c).setCell ⟨w.heap.size + 1 + 1, 3, none⟩ d).cell? ⟨w.heap.size + 1, 2, none⟩ = some (.slice B2 m2 b2) ∧ ((((W.setCell ⟨w.heap.size + 1 + 1, 0, none⟩ a).setCell ⟨w.heap.size + 1 + 1, 1, none⟩ b).setCell ⟨w.heap.size + 1 + 1, 2, none⟩ c).setCell ⟨w.heap.size + 1 + 1, 3, none⟩ d).cell? ⟨w.heap.size + 1, 3, none⟩ = some (.slice B3 m3 b3))) := Lib.hid fun W a b c d hW => by
    have ho := only4 W (w.heap.size + 1 + 1) a b c d
    have hs := hW.size
    have e1 := (ho.block _ (by omega) (fun q => by omega)).trans ((hW.block _ (by omega)).trans hr0)
    have e2 := (ho.block _ (by omega) (fun q => by omega)).trans ((hW.block _ (by omega)).trans hr1)
    exact ⟨cell_of_row _ _ 0 _ _ _ e1, cell_of_row _ _ 1 _ _ _ e1, cell_of_row _ _ 2 _ _ _ e1, cell_of_row _ _ 3 _ _ _ e1, cell_of_row _ _ 0 _ _ _ e2, cell_of_row _ _ 1 _ _ _ e2, cell_of_row _ _ 2 _ _ _ e2, cell_of_row _ _ 3 _ _ _ e2⟩
  have HV1 : Hid (Calls Tryd.prog 42 #[(.agg #[.int .i64 k, .string t, .slice A2 n2 a2, .slice A3 n3 a3]), pv (w.heap.size + 1 + 1 + 1)] w1.drew (ValPost w1.drew d)) := Lib.hid (value_any d _ w1.drew _ (tidy_mono (by omega) _ htd) (hd.below' hb.drew))
  have HV2 : Hid (∀ W, Below w1.heap.size w1 W → Calls Tryd.prog 42 #[(.agg #[.int .i64 k', .string t', .slice B2 m2 b2, .slice B3 m3 b3]), pv (w.heap.size + 1 + 1 + 1)] W (ValPost W p)) := Lib.hid fun W hW => value_any p _ W _ (tidy_mono (by omega) _ htp) (hp.below' (hb.trans (hW.mono hb.size)))
  have HM := Lib.hid (fun (w2 w3 : World) (x1 x2 : Nat) h1 hb1 h2 hb2 => dm_merge B L1 L2 hL d p htd htp w1 w2 w3 (w.heap.size + 1 + 1 + 1) x1 x2 h1 hb1 h2 hb2 (hG.below hb) (by omega) (cell_of_row _ _ 2 _ _ _ hr3))
  have HB := Lib.hid (And.intro hb hz)
  have HL := Lib.hid hL
  have p0 := (HC.out w1 (Below.refl _ _)).1
  clear hd hp hG hn2 hn3 hm2 hm3 hk ht hk' ht' hb hz hr0 hr1 hr2 hr3 htd htp hL
  go_enter Tryd.func20, Tryd.ntmps20
  go_wp2_with fail
  (try rw [hw1])
  clear hw1
  refine wp_region_held_drew (S := fun W => W.cell? ⟨w.heap.size, 0, none⟩ = some (.int .i64 k) ∧ W.cell? ⟨w.heap.size, 1, none⟩ = some (.string t) ∧ W.cell? ⟨w.heap.size, 2, none⟩ = some (.slice A2 n2 a2) ∧ W.cell? ⟨w.heap.size, 3, none⟩ = some (.slice A3 n3 a3) ∧ W.cell? ⟨w.heap.size + 1, 0, none⟩ = some (.int .i64 k') ∧ W.cell? ⟨w.heap.size + 1, 1, none⟩ = some (.string t') ∧ W.cell? ⟨w.heap.size + 1, 2, none⟩ = some (.slice B2 m2 b2) ∧ W.cell? ⟨w.heap.size + 1, 3, none⟩ = some (.slice B3 m3 b3)) (by kernel_rfl) p0 (fun hHeld => ?_)
  refine wpAnyH_take (i := 0) (v := ?_) rfl (by kernel_rfl) (by kernel_rfl) (by kernel_rfl) (fun _ _ _ h => h) (Or.inl ⟨by rfl, ?_⟩) (by assumption) ?_
  rotate_left
  · intro W hSw; (try dsimp only at hSw); go_simp; (try with_reducible rfl)
  try simp only [Act.put, List.setIfInBounds_toArray, List.set_cons_zero, List.set_cons_succ]
  refine wpAnyH_take (i := 1) (v := ?_) rfl (by kernel_rfl) (by kernel_rfl) (by kernel_rfl) (fun _ _ _ h => h) (Or.inl ⟨by rfl, ?_⟩) (by assumption) ?_
  rotate_left
  · intro W hSw; (try dsimp only at hSw); go_simp; (try with_reducible rfl)
  try simp only [Act.put, List.setIfInBounds_toArray, List.set_cons_zero, List.set_cons_succ]
  refine wpAnyH_take (i := 3) (v := ?_) rfl (by kernel_rfl) (by kernel_rfl) (by kernel_rfl) (fun _ _ _ h => h) (Or.inl ⟨by rfl, ?_⟩) (by assumption) ?_
  rotate_left
  · intro W hSw; (try dsimp only at hSw); go_simp; (try with_reducible rfl)
  try simp only [Act.put, List.setIfInBounds_toArray, List.set_cons_zero, List.set_cons_succ]
  refine wpAnyH_take (i := 4) (v := ?_) rfl (by kernel_rfl) (by kernel_rfl) (by kernel_rfl) (fun _ _ _ h => h) (Or.inl ⟨by rfl, ?_⟩) (by assumption) ?_
  rotate_left
  · intro W hSw; (try dsimp only at hSw); go_simp; (try with_reducible rfl)
  try simp only [Act.put, List.setIfInBounds_toArray, List.set_cons_zero, List.set_cons_succ]
  refine wpAnyH_take (i := 6) (v := ?_) rfl (by kernel_rfl) (by kernel_rfl) (by kernel_rfl) (fun _ _ _ h => h) (Or.inl ⟨by rfl, ?_⟩) (by assumption) ?_
  rotate_left
  · intro W hSw; (try dsimp only at hSw); go_simp; (try with_reducible rfl)
  try simp only [Act.put, List.setIfInBounds_toArray, List.set_cons_zero, List.set_cons_succ]
  refine wpAnyH_ready (rs := [2]) (by kernel_rfl) (by simp) ?_
  refine AllReadyH.cons (o := _) rfl (fun K hK => ?_) ?_
  ·
    go_simp
    go_at_call 42
    refine HV1.out.mono ?_
    rintro e w2 ⟨v1, rfl, hx1, hb2⟩
    obtain ⟨x1, hx1v⟩ := hx1.pv
    subst hx1v
    have q0 := (HC.out w2 ((Below.refl _ _).drew.trans hb2)).1
    have HX1 := Lib.hid (And.intro hx1 hb2)
    clear hx1 hb2
    refine hK.out _ _ (by first | exact p0 | exact q0 | exact q1 | exact q2 | exact q3 | exact r0) (fun hHeld => ?_)
    clear hK K
    try simp only [Act.put, List.setIfInBounds_toArray, List.set_cons_zero, List.set_cons_succ]
    refine wpAnyH_ready (rs := [5]) (by kernel_rfl) (by simp) ?_
    refine AllReadyH.cons (o := _) rfl (fun K hK => ?_) ?_
    ·
      go_simp
      go_at_call 42
      refine (HV2.out w2 ((Below.refl _ _).drew.trans HX1.out.2)).mono ?_
      rintro e w3 ⟨v2, rfl, hx2, hb3⟩
      obtain ⟨x2, hx2v⟩ := hx2.pv
      subst hx2v
      have q1 := (HC.out w3 (((Below.refl _ _).drew.trans HX1.out.2).trans (hb3.mono HX1.out.2.size))).1
      have HX2 := Lib.hid (And.intro hx2 hb3)
      clear hx2 hb3
      refine hK.out _ _ (by first | exact p0 | exact q0 | exact q1 | exact q2 | exact q3 | exact r0) (fun hHeld => ?_)
      clear hK K
      try simp only [Act.put, List.setIfInBounds_toArray, List.set_cons_zero, List.set_cons_succ]
      refine wpAnyH_ready (rs := [7]) (by kernel_rfl) (by simp) ?_
      refine AllReadyH.cons (o := _) rfl (fun K hK => ?_) ?_
      ·
        go_simp
        go_at_call 41
        refine (HM.out w2 w3 x1 x2 HX1.out.1 ((Below.refl _ _).drew.trans HX1.out.2) HX2.out.1 HX2.out.2).mono ?_
        rintro e w4 ⟨r, T, rfl, hm1, hm2, ⟨S4, hm3⟩, hb4⟩
        have q2 := (HC.out w4 hb4).1
        have HX3 := Lib.hid (And.intro hm1 (And.intro hm2 (And.intro hm3 hb4)))
        clear hm1 hm2 hm3 hb4
        refine hK.out _ _ (by first | exact p0 | exact q0 | exact q1 | exact q2 | exact q3 | exact r0) (fun hHeld => ?_)
        clear hK K
        try simp only [Act.put, List.setIfInBounds_toArray, List.set_cons_zero, List.set_cons_succ]
        refine wpAnyH_ready (rs := [8]) (by kernel_rfl) (by simp) ?_
        refine AllReadyH.cons (o := _) rfl (fun K hK => ?_) ?_
        ·
          go_simp
          go_at_call 40
          refine (back_any (SizeOf.sizeOf T) T true (pv r) w4 S4 (Nat.le_refl _) (lim_mono HL.out HX3.out.2.1) HX3.out.2.2.1.ln).mono ?_
          rintro e w5 ⟨cs, rfl, hx, hb5⟩
          obtain ⟨E2, E3, e2, e3, rfl, -, -⟩ := hx.cells
          obtain ⟨q3, hz0⟩ := HC.out w5 (HX3.out.2.2.2.trans (hb5.mono HX3.out.2.2.2.size))
          have y0 := cell_of_row _ _ 0 _ _ _ hz0
          have z0 := Go.frozen_of_row _ _ 0 _ _ hz0
          have h1 := heap_setCell_same _ _ 0 _ _ (.int .i64 T.f0) hz0
          have y1 := cell_of_row _ _ 1 _ _ _ h1
          have z1 := Go.frozen_of_row _ _ 1 _ _ h1
          have h2 := heap_setCell_same _ _ 1 _ _ (.string T.f1) h1
          have y2 := cell_of_row _ _ 2 _ _ _ h2
          have z2 := Go.frozen_of_row _ _ 2 _ _ h2
          have h3 := heap_setCell_same _ _ 2 _ _ (.slice E2 T.f2.length e2) h2
          have y3 := cell_of_row _ _ 3 _ _ _ h3
          have z3 := Go.frozen_of_row _ _ 3 _ _ h3
          have H4 := Lib.hid (heap_setCell_same _ _ 3 _ _ (.slice E3 T.f3.length e3) h3)
          have r0 := HE.out w5 (.int .i64 T.f0) (.string T.f1) (.slice E2 T.f2.length e2) (.slice E3 T.f3.length e3) (HX3.out.2.2.2.trans (hb5.mono HX3.out.2.2.2.size))
          have HX4 := Lib.hid (And.intro hx hb5)
          clear hx hb5 h1 h2 h3 hz0
          refine hK.out _ _ (by first | exact p0 | exact q0 | exact q1 | exact q2 | exact q3 | exact r0) (fun hHeld => ?_)
          clear hK K
          try simp only [Act.put, List.setIfInBounds_toArray, List.set_cons_zero, List.set_cons_succ]
          refine wpAnyH_ready (rs := [9]) (by kernel_rfl) (by simp) ?_
          refine AllReadyH.cons (o := _) rfl (fun K hK => ?_) ?_
          ·
            go_simp
            refine hK.out _ _ (by first | exact p0 | exact q0 | exact q1 | exact q2 | exact q3 | exact r0) (fun hHeld => ?_)
            clear hK K
            try simp only [Act.put, List.setIfInBounds_toArray, List.set_cons_zero, List.set_cons_succ]
            refine wpAnyH_done (by kernel_rfl) ?_ _
            go_wp2; (try simp only [Exit.inBlock, Exit.then]); refine bodyPost_ret (cell_results rfl _ _ (w.heap.size + 1 + 1) 42 _ (0, 0) _ rfl H4.out Tryd.underlying42 rfl (by kernel_rfl)) rfl ?_; exact dm_end _ _ _ _ HX3.out.1 HX3.out.2.1 HX3.out.2.2.2 HX4.out.1 HX4.out.2 HB.out
          exact AllReadyH.nil
        exact AllReadyH.nil
      exact AllReadyH.nil
    exact AllReadyH.nil
  exact AllReadyH.nil
end Go.Proofs.YtdjogkfgegopfaaDoor
