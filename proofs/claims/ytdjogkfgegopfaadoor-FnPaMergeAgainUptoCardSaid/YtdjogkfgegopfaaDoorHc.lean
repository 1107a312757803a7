/- The walks of json-patch's doors back, backDoc, backAry: a tree of nodes told as a tree of plain data. Condition: lists of at most 2^40. -/
import Derived.Test.YtdjogkfgegopfaaDoorHb
namespace Go.Proofs.YtdjogkfgegopfaaDoor
open Go.RowKit Go.Maps Go.Proofs.YtdjogkfgegopfaaDoor.MFnPaMergeAgain Go.Proofs.YtdjogkfgegopfaaDoor.Pure Go.Proofs.YtdjogkfgegopfaaDoorW.PrintWords Go.Proofs.YtdjogkfgegopfaaDoorW.PrintLast
set_option linter.unusedVariables false
set_option linter.unusedSimpArgs false

def Nil : Nat → Prop := fun _ => False
theorem tree_end2 {w wr : World} {X : Nat → Prop} {E p q c2 : Nat} {A2 : Option Addr} {v : Value} {k : Int} {t : ByteArray} {ks : List ByteArray} {xs : List S25} {a b c d : Value} (hks : ks.length ≤ c2 ∧ ∀ i (hi : i < ks.length), ∃ ad, A2 = some ad ∧ New w ad.block ∧ ad.block ≠ p ∧ wr.cell? (ad.add i) = some (.string ks[i])) (h : TInv w Nil X E p q (.int .i64 k) (.string t) (.slice A2 ks.length c2) xs v wr) :
    TreePost w Nil ⟨k, t, ks, xs⟩ (.returned (.agg #[.int .i64 k, .string t, .slice A2 ks.length c2, v])) ((((wr.setCell ⟨p, 0, none⟩ a).setCell ⟨p, 1, none⟩ b).setCell ⟨p, 2, none⟩ c).setCell ⟨p, 3, none⟩ d) := by
  have hb := h.below
  have ho := only4 wr p a b c d
  have := h.tree ⟨hks.1, fun i hi => by obtain ⟨ad, e1, e2, e3⟩ := hks.2 i hi; exact ⟨ad, e1, .inr e2, e3⟩⟩
  exact ⟨_, rfl, this.step ho (fun i hi hs q => hs.2 q) (fun i hi hs => hs.1), hb.trans (ho.below (fun i _ hi => by subst hi; exact h.ne.2.1) hb.size)⟩
theorem row_at {w : World} {base e : Nat} {nv : Value} {xs : List Value} (h : w.ownsRow base e 1 nv xs.length xs) (h0 : 0 < xs.length) : ∃ g cap, nv = .slice (some ⟨g, 0, none⟩) xs.length cap ∧ g < w.heap.size ∧ ∀ i (hi : i < xs.length), w.cell? ⟨g, i, none⟩ = some xs[i] := by
  obtain ⟨g, cap, rfl, _, hlt⟩ := h.form h0
  refine ⟨g, cap, rfl, hlt, fun i hi => ?_⟩
  rw [h.cellAt i (by omega)]
  exact List.getElem?_eq_getElem hi

set_option maxRecDepth 1000000 in
set_option maxHeartbeats 4000000 in
theorem backAry_any (w : World) (O : Nat → Prop) (a : Nat) (vs : List Value) (ts : List S25) (h : AryAt w O a vs) (hlen : vs.length = ts.length) (hl : ts.length ≤ 1099511627776)
    (IH : ∀ (i : Nat) v t W, vs[i]? = some v → ts[i]? = some t → Below w.heap.size w W → Calls Tryd.prog 40 #[v] W (TreePost W Nil t)) (hptr : ∀ i (hi : i < vs.length), ∃ p, vs[i] = .pointer p) :
    Calls Tryd.prog 49 #[pv a] w (TreePost w Nil ⟨5, ByteArray.empty, [], ts⟩) := by
  obtain ⟨self, nv, h1, h2, -, -⟩ := h
  obtain ⟨An0, cn0, hnv⟩ := own_slice h2
  have hrow : ∀ i (hi : i < vs.length), ∃ g, An0 = some ⟨g, 0, none⟩ ∧ g < w.heap.size ∧ w.cell? ⟨g, i, none⟩ = some vs[i] := by
    intro i hi
    obtain ⟨g, cap, e, hg, hc⟩ := row_at h2 (by omega)
    rw [hnv] at e
    simp only [Value.slice.injEq] at e
    exact ⟨g, e.1, hg, hc i hi⟩
  subst hnv
  have la := (Array.getElem?_eq_some_iff.1 h1).1
  have c1 := cell_of_row _ a 1 _ _ _ h1
  rw [hlen] at c1
  have ca : ∀ o1 o2, ((w.alloc o1).alloc o2).cell? ⟨a, 1, none⟩ = some (.slice An0 ts.length cn0) := fun o1 o2 => (World.cell?_of_block (a := ⟨a, 1, none⟩) ((Below.heap_alloc _ _ _ (by simp; omega)).trans (Below.heap_alloc _ _ _ la))).trans c1
  have HR := Lib.hid hrow
  have HI := Lib.hid IH
  have HP := Lib.hid hptr
  have HL := Lib.hid hlen
  have c2 := ca (.cells #[.int .i64 0, .string ⟨#[]⟩, .slice none 0 0, .slice none 0 0] 42) (.cells #[.int .i64 5, .string ⟨#[]⟩, .slice none 0 0, .slice none 0 0] 42)
  clear h1 h2 hrow IH hptr hlen c1 la ca
  go_enter Tryd.func49, Tryd.ntmps49
  go_wp2
  obtain ⟨W0, hW0⟩ : ∃ W : World, (w.alloc (.cells #[.int .i64 0, .string ⟨#[]⟩, .slice none 0 0, .slice none 0 0] 42)).alloc (.cells #[.int .i64 5, .string ⟨#[]⟩, .slice none 0 0, .slice none 0 0] 42) = W := ⟨_, rfl⟩
  have HV0 : TInv w Nil Nil 42 w.heap.size (w.heap.size + 1) (.int .i64 5) (.string ⟨#[]⟩) (.slice none 0 0) (ts.take 0) (.slice none 0 0) W0 := by
    have a1 := heap_alloc_new w (.cells #[.int .i64 0, .string ⟨#[]⟩, .slice none 0 0, .slice none 0 0] 42)
    have a2 := heap_alloc_new (w.alloc (.cells #[.int .i64 0, .string ⟨#[]⟩, .slice none 0 0, .slice none 0 0] 42)) (.cells #[.int .i64 5, .string ⟨#[]⟩, .slice none 0 0, .slice none 0 0] 42)
    have s1 : (w.alloc (.cells #[.int .i64 0, .string ⟨#[]⟩, .slice none 0 0, .slice none 0 0] 42)).heap.size = w.heap.size + 1 := by simp
    rw [s1] at a2
    rw [hW0] at a2
    refine ⟨by rw [← hW0]; exact ((Below.refl _ _).alloc (Nat.le_refl _) _).alloc (by simp) _, ⟨_, rfl, by rw [← hW0]; exact (Below.heap_alloc _ _ _ (by simp)).trans a1⟩, a2, ⟨by omega, by omega, by omega⟩, ⟨by simp [Value.ownBlock], by simp [Value.ownBlock]⟩, [], own_nil _ _ _ _, Reps.none _ _⟩
  rw [hW0]
  clear hW0 c2
  go_loopw [12] (fun i wr => ∃ (n : Nat) (v : Value), n ≤ ts.length ∧ i = .int .i64 n ∧ Hid (TInv w Nil Nil 42 w.heap.size (w.heap.size + 1) (.int .i64 5) (.string ⟨#[]⟩) (.slice none 0 0) (ts.take n) v wr)) (fun i _ => ts.length - (intOf i).toNat)
  case atStart => exact ⟨0, _, Nat.zero_le _, rfl, Lib.hid HV0⟩
  case round =>
      obtain ⟨n, v, hn, rfl, HV⟩ := hrel
      by_cases hlt : n < ts.length
      · have hbw := HV.out.below
        have hLN : (ts.take n).length = n := by simp; omega
        have hltv : n < vs.length := by have := HL.out; omega
        obtain ⟨g0, hA0, hg0, hcell⟩ := HR.out n hltv
        obtain ⟨pt, hpt⟩ := HP.out n hltv
        have hvn : vs[n]? = some (.pointer pt) := by rw [List.getElem?_eq_getElem hltv, hpt]
        rw [hpt] at hcell
        have hcr : wr.cell? ⟨g0, n, none⟩ = some (.pointer pt) := (hbw.cell (p := ⟨g0, n, none⟩) hg0).trans hcell
        obtain ⟨T, hTn⟩ : ∃ x, ts[n] = x := ⟨_, rfl⟩
        have htn : ts[n]? = some T := by rw [List.getElem?_eq_getElem hlt, hTn]
        have hTE : ts.take (n + 1) = ts.take n ++ [T] := by rw [List.take_succ_eq_append_getElem hlt, hTn]
        obtain ⟨inner, hin, hrep⟩ := HV.out.own
        obtain ⟨An, cn, hv⟩ := own_slice hin
        rw [hLN] at hv hin
        subst hv
        obtain ⟨lp, lq⟩ := HV.out.pq
        have hq1 := HV.out.out
        have hwr := hbw.size
        have hrn : (Value.slice An n cn).ownBlock ≠ some (w.heap.size + 1) := HV.out.rowne.2
        have HC : Hid (∀ W, Below wr.heap.size wr W → W.cell? ⟨w.heap.size + 1, 3, none⟩ = some (.slice An n cn) ∧ W.ownsRow w.heap.size 42 4 (.slice An n cn) n inner) := Lib.hid fun W hW => by
          have e3 : W.heap[w.heap.size + 1]? = _ := (hW.block _ (by omega)).trans hq1
          exact ⟨cell_of_row _ _ 3 _ _ _ e3, pw_own_below hin hW⟩
        have HG : Hid (∀ W W4 : World, Below wr.heap.size wr W → W.grownBy W4 (Value.slice An n cn).ownBlock → W4.cell? ⟨w.heap.size + 1, 3, none⟩ = some (.slice An n cn) ∧ W4.frozen? ⟨w.heap.size + 1, 3, none⟩ = false) := Lib.hid fun W W4 hW hg => by
          have hws := hW.size
          have e3 : W4.heap[w.heap.size + 1]? = _ := (hg.block _ (by omega) (fun q => hrn q.symm)).trans ((hW.block _ (by omega)).trans hq1)
          exact ⟨cell_of_row _ _ 3 _ _ _ e3, Go.frozen_of_row _ _ 3 _ _ e3⟩
        have HWS : Hid (w.heap.size ≤ wr.drew.heap.size) := Lib.hid (by show w.heap.size ≤ wr.heap.size; omega)
        have HBW : Hid (Below w.heap.size w wr.drew) := Lib.hid hbw.drew
        have HLN := Lib.hid hLN
        have HTE := Lib.hid hTE
        have HIN := Lib.hid (And.intro hin hrep)
        have hltI : (n : Int) < (ts.length : Int) := by omega
        obtain ⟨i0, hi0, hz0, hz1, hz2⟩ := info_parts infopaIn
        obtain ⟨p1, -⟩ := HC.out wr (Below.refl _ _)
        subst hA0
        clear lp lq hq1 hwr hrn hbw hLN hTE hin hrep hTn hpt hcell hg0
        go_wp2_with fail
        refine wp_region_held_drew (S := fun _ => True) (by kernel_rfl) trivial (fun hHeld => ?_)
        refine wpAnyH_take (i := 0) (v := ?_) rfl (by kernel_rfl) (by kernel_rfl) (by kernel_rfl) (fun _ _ _ h => h) (Or.inl ⟨by rfl, ?_⟩) (by assumption) ?_
        rotate_left
        · intro W hSw; (try dsimp only at hSw); go_simp; (try with_reducible rfl)
        try simp only [Act.put, List.setIfInBounds_toArray, List.set_cons_zero, List.set_cons_succ]
        refine wpAnyH_take (i := 2) (v := ?_) rfl (by kernel_rfl) (by kernel_rfl) (by kernel_rfl) (fun _ _ _ h => h) (Or.inl ⟨by rfl, ?_⟩) (by assumption) ?_
        rotate_left
        · intro W hSw; (try dsimp only at hSw); go_simp; (try with_reducible rfl)
        try simp only [Act.put, List.setIfInBounds_toArray, List.set_cons_zero, List.set_cons_succ]
        refine wpAnyH_ready (rs := [1, 3]) (by kernel_rfl) (by simp) ?_
        refine AllReadyH.cons (o := _) rfl (fun K hK => ?_) ?_
        ·
          go_simp
          refine hK.out _ _ trivial (fun hHeld => ?_)
          clear hK K
          try simp only [Act.put, List.setIfInBounds_toArray, List.set_cons_zero, List.set_cons_succ]
          refine wpAnyH_ready (rs := [3]) (by kernel_rfl) (by simp) ?_
          refine AllReadyH.cons (o := _) rfl (fun K hK => ?_) ?_
          ·
            go_simp
            go_at_call 40
            refine (HI.out n _ _ _ hvn htn HBW.out).mono ?_
            rintro e w2 ⟨cs, rfl, hx, hb2⟩
            obtain ⟨E2, E3, e2, e3, rfl, -, -⟩ := hx.cells
            obtain ⟨q2, -⟩ := HC.out w2 ((Below.refl _ _).drew.trans hb2)
            obtain ⟨q3, how⟩ := HC.out (w2.alloc (.cells #[.int .i64 T.f0, .string T.f1, .slice E2 T.f2.length e2, .slice E3 T.f3.length e3] 42)) ((Below.refl _ _).drew.trans (hb2.alloc hb2.size _))
            have HOW := Lib.hid how
            have HW := Lib.hid (And.intro hx hb2)
            have HWZ : Hid (w.heap.size ≤ (w2.alloc (.cells #[.int .i64 T.f0, .string T.f1, .slice E2 T.f2.length e2, .slice E3 T.f3.length e3] 42)).heap.size) := Lib.hid (by have h1 := HWS.out; have h2 := hb2.size; have h3 : wr.drew.heap.size = wr.heap.size := rfl; simp; omega)
            clear hx hb2 how
            refine hK.out _ _ trivial (fun hHeld => ?_)
            clear hK K
            try simp only [Act.put, List.setIfInBounds_toArray, List.set_cons_zero, List.set_cons_succ]
            refine wpAnyH_ready (rs := [4]) (by kernel_rfl) (by simp) ?_
            refine AllReadyH.cons (o := _) rfl (fun K hK => ?_) ?_
            ·
              go_simp
              refine hK.out _ _ trivial (fun hHeld => ?_)
              clear hK K
              try simp only [Act.put, List.setIfInBounds_toArray, List.set_cons_zero, List.set_cons_succ]
              refine wpAnyH_ready (rs := [5]) (by kernel_rfl) (by simp) ?_
              refine AllReadyH.cons (o := _) rfl (fun K hK => ?_) ?_
              ·
                refine step_append_lies _ rfl (.tmp 17) (.tmp 20) 40 rfl w.heap.size 42 i0 (.agg #[.int .i64 0, .string ⟨#[]⟩, .slice none 0 0, .slice none 0 0]) 4 72 Tryd.underlying40 hi0 hz0 hz1 hz2 rfl (by decide) (.slice An n cn) n inner rfl HOW.out ⟨w2.heap.size, 0, none⟩ 1 1 [.int .i64 T.f0, .string T.f1, .slice E2 T.f2.length e2, .slice E3 T.f3.length e3] rfl rfl (World.news_of_block (cs := #[.int .i64 T.f0, .string T.f1, .slice E2 T.f2.length e2, .slice E3 T.f3.length e3]) (heap_alloc_new w2 _)) (by intro u hu; simp at hu; rcases hu with rfl | rfl | rfl | rfl <;> rfl) (by decide) (by unfold maxLen; omega) (by omega) HWZ.out _ rfl ?_
                intro gg cap w4 hown4 hg4 hat4 hlt4
                obtain ⟨r2, r3⟩ := HG.out _ _ ((Below.refl _ _).drew.trans (HW.out.2.alloc HW.out.2.size _)) hg4
                have H4 := Lib.hid (And.intro hown4 (And.intro hg4 hat4))
                clear hown4 hg4 hat4 hlt4
                refine hK.out _ _ trivial (fun hHeld => ?_)
                clear hK K
                try simp only [Act.put, List.setIfInBounds_toArray, List.set_cons_zero, List.set_cons_succ]
                refine wpAnyH_take (i := 6) (v := ?_) rfl (by kernel_rfl) (by kernel_rfl) (by kernel_rfl) (fun _ _ _ h => h) (Or.inl ⟨by rfl, ?_⟩) (by assumption) ?_
                rotate_left
                · intro W hSw; (try dsimp only at hSw); go_simp; (try with_reducible rfl)
                try simp only [Act.put, List.setIfInBounds_toArray, List.set_cons_zero, List.set_cons_succ]
                refine wpAnyH_ready (rs := [7]) (by kernel_rfl) (by simp) ?_
                refine AllReadyH.cons (o := _) rfl (fun K hK => ?_) ?_
                ·
                  go_simp
                  refine hK.out _ _ trivial (fun hHeld => ?_)
                  clear hK K
                  try simp only [Act.put, List.setIfInBounds_toArray, List.set_cons_zero, List.set_cons_succ]
                  refine wpAnyH_done (by kernel_rfl) ?_ _
                  go_wp2; exact tree_round ts.length (by simpa [HLN.out] using TInv.snoc (xs := ts.take n) HV.out (fun _ q => q.elim) (fun _ q => q.elim) (by rw [HLN.out]; exact HIN.out.1) HIN.out.2 (Below.refl _ _).drew HW.out.1 HW.out.2 ((Below.refl _ _).alloc (Nat.le_refl _) _) (by rw [HLN.out]; exact H4.out.1) H4.out.2.1 (H4.out.2.2.imp id (fun e => by rw [e]; simp))) HTE.out hlt
                exact AllReadyH.nil
              exact AllReadyH.nil
            exact AllReadyH.nil
          exact AllReadyH.nil
        refine AllReadyH.cons (o := _) rfl (fun K hK => ?_) ?_
        ·
          go_simp
          go_at_call 40
          refine (HI.out n _ _ _ hvn htn HBW.out).mono ?_
          rintro e w2 ⟨cs, rfl, hx, hb2⟩
          obtain ⟨E2, E3, e2, e3, rfl, -, -⟩ := hx.cells
          obtain ⟨q2, -⟩ := HC.out w2 ((Below.refl _ _).drew.trans hb2)
          obtain ⟨q3, how⟩ := HC.out (w2.alloc (.cells #[.int .i64 T.f0, .string T.f1, .slice E2 T.f2.length e2, .slice E3 T.f3.length e3] 42)) ((Below.refl _ _).drew.trans (hb2.alloc hb2.size _))
          have HOW := Lib.hid how
          have HW := Lib.hid (And.intro hx hb2)
          have HWZ : Hid (w.heap.size ≤ (w2.alloc (.cells #[.int .i64 T.f0, .string T.f1, .slice E2 T.f2.length e2, .slice E3 T.f3.length e3] 42)).heap.size) := Lib.hid (by have h1 := HWS.out; have h2 := hb2.size; have h3 : wr.drew.heap.size = wr.heap.size := rfl; simp; omega)
          clear hx hb2 how
          refine hK.out _ _ trivial (fun hHeld => ?_)
          clear hK K
          try simp only [Act.put, List.setIfInBounds_toArray, List.set_cons_zero, List.set_cons_succ]
          refine wpAnyH_ready (rs := [1, 4]) (by kernel_rfl) (by simp) ?_
          refine AllReadyH.cons (o := _) rfl (fun K hK => ?_) ?_
          ·
            go_simp
            refine hK.out _ _ trivial (fun hHeld => ?_)
            clear hK K
            try simp only [Act.put, List.setIfInBounds_toArray, List.set_cons_zero, List.set_cons_succ]
            refine wpAnyH_ready (rs := [4]) (by kernel_rfl) (by simp) ?_
            refine AllReadyH.cons (o := _) rfl (fun K hK => ?_) ?_
            ·
              go_simp
              refine hK.out _ _ trivial (fun hHeld => ?_)
              clear hK K
              try simp only [Act.put, List.setIfInBounds_toArray, List.set_cons_zero, List.set_cons_succ]
              refine wpAnyH_ready (rs := [5]) (by kernel_rfl) (by simp) ?_
              refine AllReadyH.cons (o := _) rfl (fun K hK => ?_) ?_
              ·
                refine step_append_lies _ rfl (.tmp 17) (.tmp 20) 40 rfl w.heap.size 42 i0 (.agg #[.int .i64 0, .string ⟨#[]⟩, .slice none 0 0, .slice none 0 0]) 4 72 Tryd.underlying40 hi0 hz0 hz1 hz2 rfl (by decide) (.slice An n cn) n inner rfl HOW.out ⟨w2.heap.size, 0, none⟩ 1 1 [.int .i64 T.f0, .string T.f1, .slice E2 T.f2.length e2, .slice E3 T.f3.length e3] rfl rfl (World.news_of_block (cs := #[.int .i64 T.f0, .string T.f1, .slice E2 T.f2.length e2, .slice E3 T.f3.length e3]) (heap_alloc_new w2 _)) (by intro u hu; simp at hu; rcases hu with rfl | rfl | rfl | rfl <;> rfl) (by decide) (by unfold maxLen; omega) (by omega) HWZ.out _ rfl ?_
                intro gg cap w4 hown4 hg4 hat4 hlt4
                obtain ⟨r2, r3⟩ := HG.out _ _ ((Below.refl _ _).drew.trans (HW.out.2.alloc HW.out.2.size _)) hg4
                have H4 := Lib.hid (And.intro hown4 (And.intro hg4 hat4))
                clear hown4 hg4 hat4 hlt4
                refine hK.out _ _ trivial (fun hHeld => ?_)
                clear hK K
                try simp only [Act.put, List.setIfInBounds_toArray, List.set_cons_zero, List.set_cons_succ]
                refine wpAnyH_take (i := 6) (v := ?_) rfl (by kernel_rfl) (by kernel_rfl) (by kernel_rfl) (fun _ _ _ h => h) (Or.inl ⟨by rfl, ?_⟩) (by assumption) ?_
                rotate_left
                · intro W hSw; (try dsimp only at hSw); go_simp; (try with_reducible rfl)
                try simp only [Act.put, List.setIfInBounds_toArray, List.set_cons_zero, List.set_cons_succ]
                refine wpAnyH_ready (rs := [7]) (by kernel_rfl) (by simp) ?_
                refine AllReadyH.cons (o := _) rfl (fun K hK => ?_) ?_
                ·
                  go_simp
                  refine hK.out _ _ trivial (fun hHeld => ?_)
                  clear hK K
                  try simp only [Act.put, List.setIfInBounds_toArray, List.set_cons_zero, List.set_cons_succ]
                  refine wpAnyH_done (by kernel_rfl) ?_ _
                  go_wp2; exact tree_round ts.length (by simpa [HLN.out] using TInv.snoc (xs := ts.take n) HV.out (fun _ q => q.elim) (fun _ q => q.elim) (by rw [HLN.out]; exact HIN.out.1) HIN.out.2 (Below.refl _ _).drew HW.out.1 HW.out.2 ((Below.refl _ _).alloc (Nat.le_refl _) _) (by rw [HLN.out]; exact H4.out.1) H4.out.2.1 (H4.out.2.2.imp id (fun e => by rw [e]; simp))) HTE.out hlt
                exact AllReadyH.nil
              exact AllReadyH.nil
            exact AllReadyH.nil
          refine AllReadyH.cons (o := _) rfl (fun K hK => ?_) ?_
          ·
            go_simp
            refine hK.out _ _ trivial (fun hHeld => ?_)
            clear hK K
            try simp only [Act.put, List.setIfInBounds_toArray, List.set_cons_zero, List.set_cons_succ]
            refine wpAnyH_ready (rs := [1]) (by kernel_rfl) (by simp) ?_
            refine AllReadyH.cons (o := _) rfl (fun K hK => ?_) ?_
            ·
              go_simp
              refine hK.out _ _ trivial (fun hHeld => ?_)
              clear hK K
              try simp only [Act.put, List.setIfInBounds_toArray, List.set_cons_zero, List.set_cons_succ]
              refine wpAnyH_ready (rs := [5]) (by kernel_rfl) (by simp) ?_
              refine AllReadyH.cons (o := _) rfl (fun K hK => ?_) ?_
              ·
                refine step_append_lies _ rfl (.tmp 17) (.tmp 20) 40 rfl w.heap.size 42 i0 (.agg #[.int .i64 0, .string ⟨#[]⟩, .slice none 0 0, .slice none 0 0]) 4 72 Tryd.underlying40 hi0 hz0 hz1 hz2 rfl (by decide) (.slice An n cn) n inner rfl HOW.out ⟨w2.heap.size, 0, none⟩ 1 1 [.int .i64 T.f0, .string T.f1, .slice E2 T.f2.length e2, .slice E3 T.f3.length e3] rfl rfl (World.news_of_block (cs := #[.int .i64 T.f0, .string T.f1, .slice E2 T.f2.length e2, .slice E3 T.f3.length e3]) (heap_alloc_new w2 _)) (by intro u hu; simp at hu; rcases hu with rfl | rfl | rfl | rfl <;> rfl) (by decide) (by unfold maxLen; omega) (by omega) HWZ.out _ rfl ?_
                intro gg cap w4 hown4 hg4 hat4 hlt4
                obtain ⟨r2, r3⟩ := HG.out _ _ ((Below.refl _ _).drew.trans (HW.out.2.alloc HW.out.2.size _)) hg4
                have H4 := Lib.hid (And.intro hown4 (And.intro hg4 hat4))
                clear hown4 hg4 hat4 hlt4
                refine hK.out _ _ trivial (fun hHeld => ?_)
                clear hK K
                try simp only [Act.put, List.setIfInBounds_toArray, List.set_cons_zero, List.set_cons_succ]
                refine wpAnyH_take (i := 6) (v := ?_) rfl (by kernel_rfl) (by kernel_rfl) (by kernel_rfl) (fun _ _ _ h => h) (Or.inl ⟨by rfl, ?_⟩) (by assumption) ?_
                rotate_left
                · intro W hSw; (try dsimp only at hSw); go_simp; (try with_reducible rfl)
                try simp only [Act.put, List.setIfInBounds_toArray, List.set_cons_zero, List.set_cons_succ]
                refine wpAnyH_ready (rs := [7]) (by kernel_rfl) (by simp) ?_
                refine AllReadyH.cons (o := _) rfl (fun K hK => ?_) ?_
                ·
                  go_simp
                  refine hK.out _ _ trivial (fun hHeld => ?_)
                  clear hK K
                  try simp only [Act.put, List.setIfInBounds_toArray, List.set_cons_zero, List.set_cons_succ]
                  refine wpAnyH_done (by kernel_rfl) ?_ _
                  go_wp2; exact tree_round ts.length (by simpa [HLN.out] using TInv.snoc (xs := ts.take n) HV.out (fun _ q => q.elim) (fun _ q => q.elim) (by rw [HLN.out]; exact HIN.out.1) HIN.out.2 (Below.refl _ _).drew HW.out.1 HW.out.2 ((Below.refl _ _).alloc (Nat.le_refl _) _) (by rw [HLN.out]; exact H4.out.1) H4.out.2.1 (H4.out.2.2.imp id (fun e => by rw [e]; simp))) HTE.out hlt
                exact AllReadyH.nil
              exact AllReadyH.nil
            exact AllReadyH.nil
          exact AllReadyH.nil
        exact AllReadyH.nil
      · have hge : ¬ (n : Int) < (ts.length : Int) := by omega
        obtain rfl : n = ts.length := by omega
        rw [List.take_length] at HV
        obtain ⟨res, hres, hp⟩ := HV.out.res
        obtain ⟨r0, r1, r2, r3, hr4⟩ : ∃ a b c d, res = #[a, b, c, d] := by
          obtain ⟨l⟩ := res
          match l, hres with
          | [a, b, c, d], _ => exact ⟨a, b, c, d, rfl⟩
        subst hr4
        obtain ⟨inner, hin, hrep⟩ := HV.out.own
        obtain ⟨An, cn, hv⟩ := own_slice hin
        subst hv
        have hq := HV.out.out
        have o0 := cell_of_row _ _ 0 _ _ _ hq
        have o1 := cell_of_row _ _ 1 _ _ _ hq
        have o2 := cell_of_row _ _ 2 _ _ _ hq
        have o3 := cell_of_row _ _ 3 _ _ _ hq
        have y0 := cell_of_row _ _ 0 _ _ _ hp
        have z0 := Go.frozen_of_row _ _ 0 _ _ hp
        have h1 := heap_setCell_same _ _ 0 _ _ (.int .i64 5) hp
        have y1 := cell_of_row _ _ 1 _ _ _ h1
        have z1 := Go.frozen_of_row _ _ 1 _ _ h1
        have h2 := heap_setCell_same _ _ 1 _ _ (.string ⟨#[]⟩) h1
        have y2 := cell_of_row _ _ 2 _ _ _ h2
        have z2 := Go.frozen_of_row _ _ 2 _ _ h2
        have h3 := heap_setCell_same _ _ 2 _ _ (.slice none 0 0) h2
        have y3 := cell_of_row _ _ 3 _ _ _ h3
        have z3 := Go.frozen_of_row _ _ 3 _ _ h3
        have h4 := heap_setCell_same _ _ 3 _ _ (.slice An ts.length cn) h3
        have H4 := Lib.hid h4
        clear h1 h2 h3 h4 hin hrep hq hp
        go_wp2
        (try simp only [Exit.inBlock, Exit.then])
        refine bodyPost_ret (cell_results rfl _ _ (w.heap.size) 42 _ (0, 0) _ rfl H4.out Tryd.underlying42 rfl (by kernel_rfl)) rfl ?_
        exact tree_end2 (ks := []) ⟨Nat.zero_le _, fun i hi => absurd hi (Nat.not_lt_zero _)⟩ HV.out
end Go.Proofs.YtdjogkfgegopfaaDoor
namespace Go.Proofs.YtdjogkfgegopfaaDoor
open Go.RowKit Go.Maps Go.Proofs.YtdjogkfgegopfaaDoor.MFnPaMergeAgain Go.Proofs.YtdjogkfgegopfaaDoor.Pure Go.Proofs.YtdjogkfgegopfaaDoorW.PrintWords Go.Proofs.YtdjogkfgegopfaaDoorW.PrintLast
set_option linter.unusedVariables false
set_option linter.unusedSimpArgs false


theorem doc_keys {w wr : World} {p ck : Nat} {Ak : Option Addr} {ks : List ByteArray} (h : wr.ownsRow w.heap.size 9 1 (.slice Ak ks.length ck) ks.length (ks.map Value.string)) (hp : w.heap.size ≤ p) (hne : (Value.slice Ak ks.length ck).ownBlock ≠ some p) : ks.length ≤ ck ∧ ∀ i (hi : i < ks.length), ∃ ad, Ak = some ad ∧ New w ad.block ∧ ad.block ≠ p ∧ wr.cell? (ad.add i) = some (.string ks[i]) := by
  refine ⟨?_, fun i hi => ?_⟩
  · rcases h.2 with ⟨e, z⟩ | ⟨g, cap, cur, e, _, _, hle, _⟩
    · omega
    · simp only [Value.slice.injEq] at e; omega
  · obtain ⟨g, cap, e, hb, _⟩ := h.form (by omega)
    simp only [Value.slice.injEq] at e
    obtain ⟨rfl, _, rfl⟩ := e
    refine ⟨⟨g, 0, none⟩, rfl, hb, fun q => hne (by simp [Value.ownBlock]; exact q), ?_⟩
    rw [Addr.add_lit, Nat.zero_add, h.cellAt i (by omega)]
    simp [hi]

theorem doc_round {w W : World} {E p q n : Nat} {c0 c1 v kv : Value} {ks : List ByteArray} {tr : ByteArray → S25} {T : S25} (h : TInv w Nil (fun i => kv.ownBlock = some i) E p q c0 c1 kv ((ks.map tr).take n ++ [T]) v W) (he : (ks.map tr).take (n + 1) = (ks.map tr).take n ++ [T]) (hk : W.ownsRow w.heap.size 9 1 kv (n + 1) ((ks.take (n + 1)).map Value.string)) (hn : n < ks.length) :
    (∃ (n_1 : Nat) (v kv : Value), n_1 ≤ ks.length ∧ Value.int IntKind.i64 ((n : Int) + 1) = Value.int IntKind.i64 (n_1 : Int) ∧ Hid (TInv w Nil (fun i => kv.ownBlock = some i) E p q c0 c1 kv ((ks.map tr).take n_1) v W) ∧ Hid (W.ownsRow w.heap.size 9 1 kv n_1 ((ks.take n_1).map Value.string))) ∧ ks.length - (intOf (Value.int IntKind.i64 ((n : Int) + 1))).toNat < ks.length - (intOf (Value.int IntKind.i64 (n : Int))).toNat := by
  rw [← he] at h
  exact ⟨⟨n + 1, v, kv, by omega, by go_num, Lib.hid h, Lib.hid hk⟩, by simp [intOf]; omega⟩

set_option maxRecDepth 1000000 in
set_option maxHeartbeats 4000000 in
theorem backDoc_any (w : World) (O : Nat → Prop) (d m : Nat) (ks : List ByteArray) (f : ByteArray → Value) (tr : ByteArray → S25) (h : DocAt w O d m ks f) (hl : ks.length ≤ 1099511627776)
    (IH : ∀ k W, k ∈ ks → Below w.heap.size w W → Calls Tryd.prog 40 #[f k] W (TreePost W Nil (tr k))) (hptr : ∀ k, k ∈ ks → ∃ p, f k = .pointer p) :
    Calls Tryd.prog 48 #[pv d] w (TreePost w Nil ⟨6, ByteArray.empty, ks, ks.map tr⟩) := by
  obtain ⟨self, kv0, opts, h1, h2, h3, -, -, -, -, h8⟩ := h
  have hl2 : (ks.map Value.string).length = ks.length := by simp
  obtain ⟨Ak0, ck0, hnv⟩ := own_slice h2
  have hrow : ∀ i (hi : i < ks.length), ∃ g, Ak0 = some ⟨g, 0, none⟩ ∧ g < w.heap.size ∧ w.cell? ⟨g, i, none⟩ = some (.string ks[i]) := by
    intro i hi
    obtain ⟨g, cap, e, hc⟩ := row_cell h2 (by omega)
    rw [hnv] at e
    simp only [Value.slice.injEq] at e
    exact ⟨g, e.1, by have := World.block_lt_of_cell? w _ (hc i hi); exact this, hc i hi⟩
  subst hnv
  have ld := (Array.getElem?_eq_some_iff.1 h1).1
  have c1 := cell_of_row _ d 1 _ _ _ h1
  have ca : ∀ o1 o2, ((w.alloc o1).alloc o2).cell? ⟨d, 1, none⟩ = some (.slice Ak0 ks.length ck0) := fun o1 o2 => (World.cell?_of_block (a := ⟨d, 1, none⟩) ((Below.heap_alloc _ _ _ (by simp; omega)).trans (Below.heap_alloc _ _ _ ld))).trans c1
  have HLK : Hid (∀ W key pt, Below w.heap.size w W → key ∈ ks → f key = .pointer pt → W.cell? ⟨d, 2, none⟩ = some (.map (some m)) ∧ (Instr.lookup 95 (.map (some m)) (.string key) false).run Tryd.prog W = .ok (.pointer pt) W) := Lib.hid fun W key pt hW hk hf => by
    have e1 : W.heap[d]? = _ := (hW.block d ld).trans h1
    have e2 := (h3.move (hW.block m h3.lt)).get (h8 key hk)
    rw [pick_in hk, hf] at e2
    exact ⟨cell_of_row _ d 2 _ _ _ e1, e2⟩
  have HR := Lib.hid hrow
  have HI := Lib.hid IH
  have HP := Lib.hid hptr
  have c2 := ca (.cells #[.int .i64 0, .string ⟨#[]⟩, .slice none 0 0, .slice none 0 0] 42) (.cells #[.int .i64 6, .string ⟨#[]⟩, .slice none 0 0, .slice none 0 0] 42)
  clear h1 h2 h3 hrow IH hptr c1 ld ca h8 hl2
  go_enter Tryd.func48, Tryd.ntmps48
  go_wp2
  obtain ⟨W0, hW0⟩ : ∃ W : World, (w.alloc (.cells #[.int .i64 0, .string ⟨#[]⟩, .slice none 0 0, .slice none 0 0] 42)).alloc (.cells #[.int .i64 6, .string ⟨#[]⟩, .slice none 0 0, .slice none 0 0] 42) = W := ⟨_, rfl⟩
  have HV0 : TInv w Nil (fun i => (Value.slice none 0 0).ownBlock = some i) 42 w.heap.size (w.heap.size + 1) (.int .i64 6) (.string ⟨#[]⟩) (.slice none 0 0) ((ks.map tr).take 0) (.slice none 0 0) W0 := by
    have a1 := heap_alloc_new w (.cells #[.int .i64 0, .string ⟨#[]⟩, .slice none 0 0, .slice none 0 0] 42)
    have a2 := heap_alloc_new (w.alloc (.cells #[.int .i64 0, .string ⟨#[]⟩, .slice none 0 0, .slice none 0 0] 42)) (.cells #[.int .i64 6, .string ⟨#[]⟩, .slice none 0 0, .slice none 0 0] 42)
    have s1 : (w.alloc (.cells #[.int .i64 0, .string ⟨#[]⟩, .slice none 0 0, .slice none 0 0] 42)).heap.size = w.heap.size + 1 := by simp
    rw [s1] at a2
    rw [hW0] at a2
    refine ⟨by rw [← hW0]; exact ((Below.refl _ _).alloc (Nat.le_refl _) _).alloc (by simp) _, ⟨_, rfl, by rw [← hW0]; exact (Below.heap_alloc _ _ _ (by simp)).trans a1⟩, a2, ⟨by omega, by omega, by omega⟩, ⟨by simp [Value.ownBlock], by simp [Value.ownBlock]⟩, [], own_nil _ _ _ _, Reps.none _ _⟩
  rw [hW0]
  clear hW0 c2
  go_loopw [12] (fun i wr => ∃ (n : Nat) (v kv : Value), n ≤ ks.length ∧ i = .int .i64 n ∧ Hid (TInv w Nil (fun i => kv.ownBlock = some i) 42 w.heap.size (w.heap.size + 1) (.int .i64 6) (.string ⟨#[]⟩) kv ((ks.map tr).take n) v wr) ∧ Hid (wr.ownsRow w.heap.size 9 1 kv n ((ks.take n).map Value.string))) (fun i _ => ks.length - (intOf i).toNat)
  case atStart => exact ⟨0, _, _, Nat.zero_le _, rfl, Lib.hid HV0, Lib.hid (own_nil _ _ _ _)⟩
  case round =>
      obtain ⟨n, v, kv, hn, rfl, HV, HK⟩ := hrel
      by_cases hltk : n < ks.length
      · have hbw := HV.out.below
        have hLN : ((ks.map tr).take n).length = n := by simp; omega
        obtain ⟨g0, hA0, hg0, hcell⟩ := HR.out n hltk
        obtain ⟨key, hkey⟩ : ∃ x, ks[n] = x := ⟨_, rfl⟩
        have hkin : key ∈ ks := by rw [← hkey]; exact List.getElem_mem hltk
        rw [hkey] at hcell
        have hcr : wr.cell? ⟨g0, n, none⟩ = some (.string key) := (hbw.cell (p := ⟨g0, n, none⟩) hg0).trans hcell
        obtain ⟨pt, hpt⟩ := HP.out key hkin
        have hTE : (ks.map tr).take (n + 1) = (ks.map tr).take n ++ [tr key] := by rw [List.take_succ_eq_append_getElem (by simpa using hltk)]; simp [hkey]
        have hKE : (ks.take (n + 1)).map Value.string = (ks.take n).map Value.string ++ [Value.string key] := by rw [List.take_succ_eq_append_getElem hltk, hkey]; simp
        obtain ⟨inner, hin, hrep⟩ := HV.out.own
        obtain ⟨An, cn, hv⟩ := own_slice hin
        rw [hLN] at hv hin
        subst hv
        obtain ⟨Ak, ck, hkv⟩ := own_slice HK.out
        subst hkv
        obtain ⟨lp, lq⟩ := HV.out.pq
        have hq1 := HV.out.out
        have k2 := cell_of_row _ _ 2 _ _ _ hq1
        have hwr := hbw.size
        have HQ : Hid (∀ W W4 : World, Below wr.heap.size wr W → W.grownBy W4 (Value.slice Ak n ck).ownBlock → W4.cell? ⟨w.heap.size + 1, 2, none⟩ = some (.slice Ak n ck) ∧ W4.frozen? ⟨w.heap.size + 1, 2, none⟩ = false) := Lib.hid fun W W4 hW hg => by
          have hws := hW.size
          have e3 : W4.heap[w.heap.size + 1]? = _ := (hg.block _ (by omega) (fun q => own_ne HK.out hq1 (by decide) q)).trans ((hW.block _ (by omega)).trans hq1)
          exact ⟨cell_of_row _ _ 2 _ _ _ e3, Go.frozen_of_row _ _ 2 _ _ e3⟩
        have HWR := Lib.hid hwr
        have HLN := Lib.hid hLN
        have HTE := Lib.hid hTE
        have HKE := Lib.hid hKE
        have HPT := Lib.hid hpt
        have hltI : (n : Int) < (ks.length : Int) := by omega
        obtain ⟨i0, hi0, hz0, hz1, hz2⟩ := info_parts infopaIn
        subst hA0
        clear lp lq hq1 hwr hbw hLN hTE hKE hin hrep hpt hcell hg0 hkey
        go_wp2_with (first | (at_builtin; refine print_append_cells (w0 := wr) w.heap.size rfl (.tmp 17) (.tmp 19) 22 9 (.string ⟨#[]⟩) 1 16 rfl Tryd.underlying22 infoS rfl (by decide) (by decide) (.slice Ak n ck) n ((ks.take n).map Value.string) [.string key] rfl rfl rfl (by intro u hu; simp at hu; subst hu; rfl) HK.out ((Below.refl _ _)) HWR.out (by omega) ?_; intro kv1 w4 hown1 hb1 hg1 hat1; obtain ⟨Ak1, ck1, rfl⟩ := own_slice hown1; obtain ⟨y1, y2⟩ := HQ.out _ _ (Below.refl _ _) hg1; have HK5 := Lib.hid (TInv.key HV.out (by decide) HK.out (Below.refl _ _) hown1 hg1 hat1); clear hown1 hb1 hg1 hat1) | fail)
        generalize hw5 : w4.setCell ⟨w.heap.size + 1, 2, none⟩ (.slice Ak1 (n + 1) ck1) = w5 at HK5
        obtain ⟨HV5, HK6⟩ : Hid _ ∧ Hid _ := ⟨Lib.hid HK5.out.1, Lib.hid HK5.out.2⟩
        rw [← HKE.out] at HK6
        clear HK5 y1 y2 HQ HV HK k2 hcr
        obtain ⟨inner, hin, hrep⟩ := HV5.out.own
        rw [HLN.out] at hin
        have hbw := HV5.out.below
        have hwr := hbw.size
        obtain ⟨lp, lq⟩ := HV5.out.pq
        have hq1 := HV5.out.out
        have hrn : (Value.slice An n cn).ownBlock ≠ some (w.heap.size + 1) := HV5.out.rowne.2
        obtain ⟨l0, l1⟩ := HLK.out w5.drew key pt hbw.drew hkin HPT.out
        have HC : Hid (∀ W, Below w5.heap.size w5 W → W.cell? ⟨d, 2, none⟩ = some (.map (some m)) ∧ W.cell? ⟨w.heap.size + 1, 3, none⟩ = some (.slice An n cn) ∧ W.ownsRow w.heap.size 42 4 (.slice An n cn) n inner) := Lib.hid fun W hW => by
          have e3 : W.heap[w.heap.size + 1]? = _ := (hW.block _ (by omega)).trans hq1
          exact ⟨(HLK.out W key pt (hbw.trans (hW.mono hwr)) hkin HPT.out).1, cell_of_row _ _ 3 _ _ _ e3, pw_own_below hin hW⟩
        have HG : Hid (∀ W W4 : World, Below w5.heap.size w5 W → W.grownBy W4 (Value.slice An n cn).ownBlock → W4.cell? ⟨d, 2, none⟩ = some (.map (some m)) ∧ W4.cell? ⟨w.heap.size + 1, 3, none⟩ = some (.slice An n cn) ∧ W4.frozen? ⟨w.heap.size + 1, 3, none⟩ = false ∧ (∀ u, (W4.setCell ⟨w.heap.size + 1, 3, none⟩ u).cell? ⟨d, 2, none⟩ = some (.map (some m))) ∧ ∀ u, (W4.setCell ⟨w.heap.size + 1, 3, none⟩ u).ownsRow w.heap.size 9 1 (.slice Ak1 (n + 1) ck1) (n + 1) ((ks.take (n + 1)).map Value.string)) := Lib.hid fun W W4 hW hg => by
          have hws := hW.size
          have e3 : W4.heap[w.heap.size + 1]? = _ := (hg.block _ (by omega) (fun q => hrn q.symm)).trans ((hW.block _ (by omega)).trans hq1)
          have eb : Below w.heap.size w W4 := (hbw.trans (hW.mono hwr)).trans ⟨hg.os, hg.tape, hg.output, hg.size, fun i hi => hg.block i (by omega) (fun q => by have := own_base hin i q.symm; omega)⟩
          have ek := own_other (pw_own_below HK6.out hW) hg (own_type_ne HK6.out hin (by decide))
          exact ⟨(HLK.out W4 key pt eb hkin HPT.out).1, cell_of_row _ _ 3 _ _ _ e3, Go.frozen_of_row _ _ 3 _ _ e3, fun u => (HLK.out _ key pt (eb.setCell (by simp) u) hkin HPT.out).1, fun u => own_setCell ek (p := ⟨w.heap.size + 1, 3, none⟩) (fun q => own_ne ek e3 (by decide) q) u⟩
        have HX5 : Hid (∀ i, (Value.slice Ak1 (n + 1) ck1).ownBlock = some i → w.heap.size ≤ i ∧ i < w5.heap.size) := Lib.hid fun i hi => ⟨own_base HK6.out i hi, own_lt HK6.out i hi⟩
        have HWS : Hid (w.heap.size ≤ w5.drew.heap.size) := Lib.hid (by show w.heap.size ≤ w5.heap.size; omega)
        have HBW : Hid (Below w.heap.size w w5.drew) := Lib.hid hbw.drew
        have HIN := Lib.hid (And.intro hin hrep)
        obtain ⟨p0, p1, -⟩ := HC.out w5 (Below.refl _ _)
        clear hin hrep hbw hwr lp lq hq1 hrn l0 HWR
        clear hw5
        refine wp_region_held_drew (S := fun w' => w'.cell? ⟨d, 2, none⟩ = some (.map (some m))) (by kernel_rfl) p0 (fun hHeld => ?_)
        refine wpAnyH_take (i := 0) (v := ?_) rfl (by kernel_rfl) (by kernel_rfl) (by kernel_rfl) (fun _ _ _ h => h) (Or.inl ⟨by rfl, ?_⟩) (by assumption) ?_
        rotate_left
        · intro W hSw; (try dsimp only at hSw); go_simp; (try with_reducible rfl)
        try simp only [Act.put, List.setIfInBounds_toArray, List.set_cons_zero, List.set_cons_succ]
        refine wpAnyH_take (i := 2) (v := ?_) rfl (by kernel_rfl) (by kernel_rfl) (by kernel_rfl) (fun _ _ _ h => h) (Or.inl ⟨by rfl, ?_⟩) (by assumption) ?_
        rotate_left
        · intro W hSw; (try dsimp only at hSw); go_simp; (try with_reducible rfl)
        try simp only [Act.put, List.setIfInBounds_toArray, List.set_cons_zero, List.set_cons_succ]
        refine wpAnyH_take (i := 3) (v := ?_) rfl (by kernel_rfl) (by kernel_rfl) (by kernel_rfl) (fun _ _ _ h => h) (Or.inl ⟨by rfl, ?_⟩) (by assumption) ?_
        rotate_left
        · intro W hSw; (try dsimp only at hSw); go_simp; (try with_reducible rfl)
        try simp only [Act.put, List.setIfInBounds_toArray, List.set_cons_zero, List.set_cons_succ]
        refine wpAnyH_take (i := 4) (v := ?_) rfl (by kernel_rfl) (by kernel_rfl) (by kernel_rfl) (fun _ _ _ h => h) (Or.inl ⟨by rfl, ?_⟩) (by assumption) ?_
        rotate_left
        · intro W hSw; (try dsimp only at hSw); go_simp; (try with_reducible rfl)
        try simp only [Act.put, List.setIfInBounds_toArray, List.set_cons_zero, List.set_cons_succ]
        refine wpAnyH_take (i := 5) (v := ?_) rfl (by kernel_rfl) (by kernel_rfl) (by kernel_rfl) (fun _ _ _ h => h) (Or.inl ⟨by rfl, ?_⟩) (by assumption) ?_
        rotate_left
        · intro W hSw; (try dsimp only at hSw); go_simp; (try with_reducible rfl)
        try simp only [Act.put, List.setIfInBounds_toArray, List.set_cons_zero, List.set_cons_succ]
        refine wpAnyH_take (i := 6) (v := ?_) rfl (by kernel_rfl) (by kernel_rfl) (by kernel_rfl) (fun _ _ _ h => h) (Or.inl ⟨by rfl, ?_⟩) (by assumption) ?_
        rotate_left
        · intro W hSw; (try dsimp only at hSw); go_simp; (try with_reducible rfl)
        try simp only [Act.put, List.setIfInBounds_toArray, List.set_cons_zero, List.set_cons_succ]
        refine wpAnyH_ready (rs := [1, 7]) (by kernel_rfl) (by simp) ?_
        refine AllReadyH.cons (o := _) rfl (fun K hK => ?_) ?_
        ·
          go_simp
          refine hK.out _ _ (by first | exact p0 | exact q0 | exact q1 | exact r0 | exact (r1 _)) (fun hHeld => ?_)
          clear hK K
          try simp only [Act.put, List.setIfInBounds_toArray, List.set_cons_zero, List.set_cons_succ]
          refine wpAnyH_ready (rs := [7]) (by kernel_rfl) (by simp) ?_
          refine AllReadyH.cons (o := _) rfl (fun K hK => ?_) ?_
          ·
            go_simp
            refine hK.out _ _ (by first | exact p0 | exact q0 | exact q1 | exact r0 | exact (r1 _)) (fun hHeld => ?_)
            clear hK K
            try simp only [Act.put, List.setIfInBounds_toArray, List.set_cons_zero, List.set_cons_succ]
            refine wpAnyH_ready (rs := [8]) (by kernel_rfl) (by simp) ?_
            refine AllReadyH.cons (o := _) rfl (fun K hK => ?_) ?_
            ·
              go_simp
              go_at_call 40
              refine (show Calls Tryd.prog 40 #[.pointer pt] _ (TreePost _ Nil (tr key)) from HPT.out ▸ HI.out key _ hkin HBW.out).mono ?_
              rintro e w2 ⟨cs, rfl, hx, hb2⟩
              obtain ⟨E2, E3, e2, e3, rfl, -, -⟩ := hx.cells
              obtain ⟨q0, q2, -⟩ := HC.out w2 ((Below.refl _ _).drew.trans hb2)
              obtain ⟨q1, q3, how⟩ := HC.out (w2.alloc (.cells #[.int .i64 (tr key).f0, .string (tr key).f1, .slice E2 (tr key).f2.length e2, .slice E3 (tr key).f3.length e3] 42)) ((Below.refl _ _).drew.trans (hb2.alloc hb2.size _))
              have HOW := Lib.hid how
              have HW := Lib.hid (And.intro hx hb2)
              have HWZ : Hid (w.heap.size ≤ (w2.alloc (.cells #[.int .i64 (tr key).f0, .string (tr key).f1, .slice E2 (tr key).f2.length e2, .slice E3 (tr key).f3.length e3] 42)).heap.size) := Lib.hid (by have h1 := HWS.out; have h2 := hb2.size; have h3 : w5.drew.heap.size = w5.heap.size := rfl; simp; omega)
              clear hx hb2 how
              refine hK.out _ _ (by first | exact p0 | exact q0 | exact q1 | exact r0 | exact (r1 _)) (fun hHeld => ?_)
              clear hK K
              try simp only [Act.put, List.setIfInBounds_toArray, List.set_cons_zero, List.set_cons_succ]
              refine wpAnyH_ready (rs := [9]) (by kernel_rfl) (by simp) ?_
              refine AllReadyH.cons (o := _) rfl (fun K hK => ?_) ?_
              ·
                go_simp
                refine hK.out _ _ (by first | exact p0 | exact q0 | exact q1 | exact r0 | exact (r1 _)) (fun hHeld => ?_)
                clear hK K
                try simp only [Act.put, List.setIfInBounds_toArray, List.set_cons_zero, List.set_cons_succ]
                refine wpAnyH_ready (rs := [10]) (by kernel_rfl) (by simp) ?_
                refine AllReadyH.cons (o := _) rfl (fun K hK => ?_) ?_
                ·
                  refine step_append_lies _ rfl (.tmp 23) (.tmp 31) 40 rfl w.heap.size 42 i0 (.agg #[.int .i64 0, .string ⟨#[]⟩, .slice none 0 0, .slice none 0 0]) 4 72 Tryd.underlying40 hi0 hz0 hz1 hz2 rfl (by decide) (.slice An n cn) n inner rfl HOW.out ⟨w2.heap.size, 0, none⟩ 1 1 [.int .i64 (tr key).f0, .string (tr key).f1, .slice E2 (tr key).f2.length e2, .slice E3 (tr key).f3.length e3] rfl rfl (World.news_of_block (cs := #[.int .i64 (tr key).f0, .string (tr key).f1, .slice E2 (tr key).f2.length e2, .slice E3 (tr key).f3.length e3]) (heap_alloc_new w2 _)) (by intro u hu; simp at hu; rcases hu with rfl | rfl | rfl | rfl <;> rfl) (by decide) (by unfold maxLen; omega) (by omega) HWZ.out _ rfl ?_
                  intro gg cap w4' hown4 hg4 hat4 hlt4
                  obtain ⟨r0, r2, r3, r1, hk4⟩ := HG.out _ _ ((Below.refl _ _).drew.trans (HW.out.2.alloc HW.out.2.size _)) hg4
                  have H4 := Lib.hid (And.intro hown4 (And.intro hg4 (And.intro hat4 hk4)))
                  clear hown4 hg4 hat4 hlt4 hk4
                  refine hK.out _ _ (by first | exact p0 | exact q0 | exact q1 | exact r0 | exact (r1 _)) (fun hHeld => ?_)
                  clear hK K
                  try simp only [Act.put, List.setIfInBounds_toArray, List.set_cons_zero, List.set_cons_succ]
                  refine wpAnyH_take (i := 11) (v := ?_) rfl (by kernel_rfl) (by kernel_rfl) (by kernel_rfl) (fun _ _ _ h => h) (Or.inl ⟨by rfl, ?_⟩) (by assumption) ?_
                  rotate_left
                  · intro W hSw; (try dsimp only at hSw); go_simp; (try with_reducible rfl)
                  try simp only [Act.put, List.setIfInBounds_toArray, List.set_cons_zero, List.set_cons_succ]
                  refine wpAnyH_ready (rs := [12]) (by kernel_rfl) (by simp) ?_
                  refine AllReadyH.cons (o := _) rfl (fun K hK => ?_) ?_
                  ·
                    go_simp
                    refine hK.out _ _ (by first | exact p0 | exact q0 | exact q1 | exact r0 | exact (r1 _)) (fun hHeld => ?_)
                    clear hK K
                    try simp only [Act.put, List.setIfInBounds_toArray, List.set_cons_zero, List.set_cons_succ]
                    refine wpAnyH_done (by kernel_rfl) ?_ _
                    go_wp2; exact doc_round (by simpa [HLN.out] using TInv.snoc (xs := (ks.map tr).take n) HV5.out (fun _ q => q.elim) HX5.out (by rw [HLN.out]; exact HIN.out.1) HIN.out.2 (Below.refl _ _).drew HW.out.1 HW.out.2 ((Below.refl _ _).alloc (Nat.le_refl _) _) (by rw [HLN.out]; exact H4.out.1) H4.out.2.1 (H4.out.2.2.1.imp id (fun e => by rw [e]; simp))) HTE.out (H4.out.2.2.2 _) hltk
                  exact AllReadyH.nil
                exact AllReadyH.nil
              exact AllReadyH.nil
            exact AllReadyH.nil
          exact AllReadyH.nil
        refine AllReadyH.cons (o := _) rfl (fun K hK => ?_) ?_
        ·
          go_simp
          refine hK.out _ _ (by first | exact p0 | exact q0 | exact q1 | exact r0 | exact (r1 _)) (fun hHeld => ?_)
          clear hK K
          try simp only [Act.put, List.setIfInBounds_toArray, List.set_cons_zero, List.set_cons_succ]
          refine wpAnyH_ready (rs := [1, 8]) (by kernel_rfl) (by simp) ?_
          refine AllReadyH.cons (o := _) rfl (fun K hK => ?_) ?_
          ·
            go_simp
            refine hK.out _ _ (by first | exact p0 | exact q0 | exact q1 | exact r0 | exact (r1 _)) (fun hHeld => ?_)
            clear hK K
            try simp only [Act.put, List.setIfInBounds_toArray, List.set_cons_zero, List.set_cons_succ]
            refine wpAnyH_ready (rs := [8]) (by kernel_rfl) (by simp) ?_
            refine AllReadyH.cons (o := _) rfl (fun K hK => ?_) ?_
            ·
              go_simp
              go_at_call 40
              refine (show Calls Tryd.prog 40 #[.pointer pt] _ (TreePost _ Nil (tr key)) from HPT.out ▸ HI.out key _ hkin HBW.out).mono ?_
              rintro e w2 ⟨cs, rfl, hx, hb2⟩
              obtain ⟨E2, E3, e2, e3, rfl, -, -⟩ := hx.cells
              obtain ⟨q0, q2, -⟩ := HC.out w2 ((Below.refl _ _).drew.trans hb2)
              obtain ⟨q1, q3, how⟩ := HC.out (w2.alloc (.cells #[.int .i64 (tr key).f0, .string (tr key).f1, .slice E2 (tr key).f2.length e2, .slice E3 (tr key).f3.length e3] 42)) ((Below.refl _ _).drew.trans (hb2.alloc hb2.size _))
              have HOW := Lib.hid how
              have HW := Lib.hid (And.intro hx hb2)
              have HWZ : Hid (w.heap.size ≤ (w2.alloc (.cells #[.int .i64 (tr key).f0, .string (tr key).f1, .slice E2 (tr key).f2.length e2, .slice E3 (tr key).f3.length e3] 42)).heap.size) := Lib.hid (by have h1 := HWS.out; have h2 := hb2.size; have h3 : w5.drew.heap.size = w5.heap.size := rfl; simp; omega)
              clear hx hb2 how
              refine hK.out _ _ (by first | exact p0 | exact q0 | exact q1 | exact r0 | exact (r1 _)) (fun hHeld => ?_)
              clear hK K
              try simp only [Act.put, List.setIfInBounds_toArray, List.set_cons_zero, List.set_cons_succ]
              refine wpAnyH_ready (rs := [9]) (by kernel_rfl) (by simp) ?_
              refine AllReadyH.cons (o := _) rfl (fun K hK => ?_) ?_
              ·
                go_simp
                refine hK.out _ _ (by first | exact p0 | exact q0 | exact q1 | exact r0 | exact (r1 _)) (fun hHeld => ?_)
                clear hK K
                try simp only [Act.put, List.setIfInBounds_toArray, List.set_cons_zero, List.set_cons_succ]
                refine wpAnyH_ready (rs := [10]) (by kernel_rfl) (by simp) ?_
                refine AllReadyH.cons (o := _) rfl (fun K hK => ?_) ?_
                ·
                  refine step_append_lies _ rfl (.tmp 23) (.tmp 31) 40 rfl w.heap.size 42 i0 (.agg #[.int .i64 0, .string ⟨#[]⟩, .slice none 0 0, .slice none 0 0]) 4 72 Tryd.underlying40 hi0 hz0 hz1 hz2 rfl (by decide) (.slice An n cn) n inner rfl HOW.out ⟨w2.heap.size, 0, none⟩ 1 1 [.int .i64 (tr key).f0, .string (tr key).f1, .slice E2 (tr key).f2.length e2, .slice E3 (tr key).f3.length e3] rfl rfl (World.news_of_block (cs := #[.int .i64 (tr key).f0, .string (tr key).f1, .slice E2 (tr key).f2.length e2, .slice E3 (tr key).f3.length e3]) (heap_alloc_new w2 _)) (by intro u hu; simp at hu; rcases hu with rfl | rfl | rfl | rfl <;> rfl) (by decide) (by unfold maxLen; omega) (by omega) HWZ.out _ rfl ?_
                  intro gg cap w4' hown4 hg4 hat4 hlt4
                  obtain ⟨r0, r2, r3, r1, hk4⟩ := HG.out _ _ ((Below.refl _ _).drew.trans (HW.out.2.alloc HW.out.2.size _)) hg4
                  have H4 := Lib.hid (And.intro hown4 (And.intro hg4 (And.intro hat4 hk4)))
                  clear hown4 hg4 hat4 hlt4 hk4
                  refine hK.out _ _ (by first | exact p0 | exact q0 | exact q1 | exact r0 | exact (r1 _)) (fun hHeld => ?_)
                  clear hK K
                  try simp only [Act.put, List.setIfInBounds_toArray, List.set_cons_zero, List.set_cons_succ]
                  refine wpAnyH_take (i := 11) (v := ?_) rfl (by kernel_rfl) (by kernel_rfl) (by kernel_rfl) (fun _ _ _ h => h) (Or.inl ⟨by rfl, ?_⟩) (by assumption) ?_
                  rotate_left
                  · intro W hSw; (try dsimp only at hSw); go_simp; (try with_reducible rfl)
                  try simp only [Act.put, List.setIfInBounds_toArray, List.set_cons_zero, List.set_cons_succ]
                  refine wpAnyH_ready (rs := [12]) (by kernel_rfl) (by simp) ?_
                  refine AllReadyH.cons (o := _) rfl (fun K hK => ?_) ?_
                  ·
                    go_simp
                    refine hK.out _ _ (by first | exact p0 | exact q0 | exact q1 | exact r0 | exact (r1 _)) (fun hHeld => ?_)
                    clear hK K
                    try simp only [Act.put, List.setIfInBounds_toArray, List.set_cons_zero, List.set_cons_succ]
                    refine wpAnyH_done (by kernel_rfl) ?_ _
                    go_wp2; exact doc_round (by simpa [HLN.out] using TInv.snoc (xs := (ks.map tr).take n) HV5.out (fun _ q => q.elim) HX5.out (by rw [HLN.out]; exact HIN.out.1) HIN.out.2 (Below.refl _ _).drew HW.out.1 HW.out.2 ((Below.refl _ _).alloc (Nat.le_refl _) _) (by rw [HLN.out]; exact H4.out.1) H4.out.2.1 (H4.out.2.2.1.imp id (fun e => by rw [e]; simp))) HTE.out (H4.out.2.2.2 _) hltk
                  exact AllReadyH.nil
                exact AllReadyH.nil
              exact AllReadyH.nil
            exact AllReadyH.nil
          refine AllReadyH.cons (o := _) rfl (fun K hK => ?_) ?_
          ·
            go_simp
            go_at_call 40
            refine (show Calls Tryd.prog 40 #[.pointer pt] _ (TreePost _ Nil (tr key)) from HPT.out ▸ HI.out key _ hkin HBW.out).mono ?_
            rintro e w2 ⟨cs, rfl, hx, hb2⟩
            obtain ⟨E2, E3, e2, e3, rfl, -, -⟩ := hx.cells
            obtain ⟨q0, q2, -⟩ := HC.out w2 ((Below.refl _ _).drew.trans hb2)
            obtain ⟨q1, q3, how⟩ := HC.out (w2.alloc (.cells #[.int .i64 (tr key).f0, .string (tr key).f1, .slice E2 (tr key).f2.length e2, .slice E3 (tr key).f3.length e3] 42)) ((Below.refl _ _).drew.trans (hb2.alloc hb2.size _))
            have HOW := Lib.hid how
            have HW := Lib.hid (And.intro hx hb2)
            have HWZ : Hid (w.heap.size ≤ (w2.alloc (.cells #[.int .i64 (tr key).f0, .string (tr key).f1, .slice E2 (tr key).f2.length e2, .slice E3 (tr key).f3.length e3] 42)).heap.size) := Lib.hid (by have h1 := HWS.out; have h2 := hb2.size; have h3 : w5.drew.heap.size = w5.heap.size := rfl; simp; omega)
            clear hx hb2 how
            refine hK.out _ _ (by first | exact p0 | exact q0 | exact q1 | exact r0 | exact (r1 _)) (fun hHeld => ?_)
            clear hK K
            try simp only [Act.put, List.setIfInBounds_toArray, List.set_cons_zero, List.set_cons_succ]
            refine wpAnyH_ready (rs := [1, 9]) (by kernel_rfl) (by simp) ?_
            refine AllReadyH.cons (o := _) rfl (fun K hK => ?_) ?_
            ·
              go_simp
              refine hK.out _ _ (by first | exact p0 | exact q0 | exact q1 | exact r0 | exact (r1 _)) (fun hHeld => ?_)
              clear hK K
              try simp only [Act.put, List.setIfInBounds_toArray, List.set_cons_zero, List.set_cons_succ]
              refine wpAnyH_ready (rs := [9]) (by kernel_rfl) (by simp) ?_
              refine AllReadyH.cons (o := _) rfl (fun K hK => ?_) ?_
              ·
                go_simp
                refine hK.out _ _ (by first | exact p0 | exact q0 | exact q1 | exact r0 | exact (r1 _)) (fun hHeld => ?_)
                clear hK K
                try simp only [Act.put, List.setIfInBounds_toArray, List.set_cons_zero, List.set_cons_succ]
                refine wpAnyH_ready (rs := [10]) (by kernel_rfl) (by simp) ?_
                refine AllReadyH.cons (o := _) rfl (fun K hK => ?_) ?_
                ·
                  refine step_append_lies _ rfl (.tmp 23) (.tmp 31) 40 rfl w.heap.size 42 i0 (.agg #[.int .i64 0, .string ⟨#[]⟩, .slice none 0 0, .slice none 0 0]) 4 72 Tryd.underlying40 hi0 hz0 hz1 hz2 rfl (by decide) (.slice An n cn) n inner rfl HOW.out ⟨w2.heap.size, 0, none⟩ 1 1 [.int .i64 (tr key).f0, .string (tr key).f1, .slice E2 (tr key).f2.length e2, .slice E3 (tr key).f3.length e3] rfl rfl (World.news_of_block (cs := #[.int .i64 (tr key).f0, .string (tr key).f1, .slice E2 (tr key).f2.length e2, .slice E3 (tr key).f3.length e3]) (heap_alloc_new w2 _)) (by intro u hu; simp at hu; rcases hu with rfl | rfl | rfl | rfl <;> rfl) (by decide) (by unfold maxLen; omega) (by omega) HWZ.out _ rfl ?_
                  intro gg cap w4' hown4 hg4 hat4 hlt4
                  obtain ⟨r0, r2, r3, r1, hk4⟩ := HG.out _ _ ((Below.refl _ _).drew.trans (HW.out.2.alloc HW.out.2.size _)) hg4
                  have H4 := Lib.hid (And.intro hown4 (And.intro hg4 (And.intro hat4 hk4)))
                  clear hown4 hg4 hat4 hlt4 hk4
                  refine hK.out _ _ (by first | exact p0 | exact q0 | exact q1 | exact r0 | exact (r1 _)) (fun hHeld => ?_)
                  clear hK K
                  try simp only [Act.put, List.setIfInBounds_toArray, List.set_cons_zero, List.set_cons_succ]
                  refine wpAnyH_take (i := 11) (v := ?_) rfl (by kernel_rfl) (by kernel_rfl) (by kernel_rfl) (fun _ _ _ h => h) (Or.inl ⟨by rfl, ?_⟩) (by assumption) ?_
                  rotate_left
                  · intro W hSw; (try dsimp only at hSw); go_simp; (try with_reducible rfl)
                  try simp only [Act.put, List.setIfInBounds_toArray, List.set_cons_zero, List.set_cons_succ]
                  refine wpAnyH_ready (rs := [12]) (by kernel_rfl) (by simp) ?_
                  refine AllReadyH.cons (o := _) rfl (fun K hK => ?_) ?_
                  ·
                    go_simp
                    refine hK.out _ _ (by first | exact p0 | exact q0 | exact q1 | exact r0 | exact (r1 _)) (fun hHeld => ?_)
                    clear hK K
                    try simp only [Act.put, List.setIfInBounds_toArray, List.set_cons_zero, List.set_cons_succ]
                    refine wpAnyH_done (by kernel_rfl) ?_ _
                    go_wp2; exact doc_round (by simpa [HLN.out] using TInv.snoc (xs := (ks.map tr).take n) HV5.out (fun _ q => q.elim) HX5.out (by rw [HLN.out]; exact HIN.out.1) HIN.out.2 (Below.refl _ _).drew HW.out.1 HW.out.2 ((Below.refl _ _).alloc (Nat.le_refl _) _) (by rw [HLN.out]; exact H4.out.1) H4.out.2.1 (H4.out.2.2.1.imp id (fun e => by rw [e]; simp))) HTE.out (H4.out.2.2.2 _) hltk
                  exact AllReadyH.nil
                exact AllReadyH.nil
              exact AllReadyH.nil
            refine AllReadyH.cons (o := _) rfl (fun K hK => ?_) ?_
            ·
              go_simp
              refine hK.out _ _ (by first | exact p0 | exact q0 | exact q1 | exact r0 | exact (r1 _)) (fun hHeld => ?_)
              clear hK K
              try simp only [Act.put, List.setIfInBounds_toArray, List.set_cons_zero, List.set_cons_succ]
              refine wpAnyH_ready (rs := [1]) (by kernel_rfl) (by simp) ?_
              refine AllReadyH.cons (o := _) rfl (fun K hK => ?_) ?_
              ·
                go_simp
                refine hK.out _ _ (by first | exact p0 | exact q0 | exact q1 | exact r0 | exact (r1 _)) (fun hHeld => ?_)
                clear hK K
                try simp only [Act.put, List.setIfInBounds_toArray, List.set_cons_zero, List.set_cons_succ]
                refine wpAnyH_ready (rs := [10]) (by kernel_rfl) (by simp) ?_
                refine AllReadyH.cons (o := _) rfl (fun K hK => ?_) ?_
                ·
                  refine step_append_lies _ rfl (.tmp 23) (.tmp 31) 40 rfl w.heap.size 42 i0 (.agg #[.int .i64 0, .string ⟨#[]⟩, .slice none 0 0, .slice none 0 0]) 4 72 Tryd.underlying40 hi0 hz0 hz1 hz2 rfl (by decide) (.slice An n cn) n inner rfl HOW.out ⟨w2.heap.size, 0, none⟩ 1 1 [.int .i64 (tr key).f0, .string (tr key).f1, .slice E2 (tr key).f2.length e2, .slice E3 (tr key).f3.length e3] rfl rfl (World.news_of_block (cs := #[.int .i64 (tr key).f0, .string (tr key).f1, .slice E2 (tr key).f2.length e2, .slice E3 (tr key).f3.length e3]) (heap_alloc_new w2 _)) (by intro u hu; simp at hu; rcases hu with rfl | rfl | rfl | rfl <;> rfl) (by decide) (by unfold maxLen; omega) (by omega) HWZ.out _ rfl ?_
                  intro gg cap w4' hown4 hg4 hat4 hlt4
                  obtain ⟨r0, r2, r3, r1, hk4⟩ := HG.out _ _ ((Below.refl _ _).drew.trans (HW.out.2.alloc HW.out.2.size _)) hg4
                  have H4 := Lib.hid (And.intro hown4 (And.intro hg4 (And.intro hat4 hk4)))
                  clear hown4 hg4 hat4 hlt4 hk4
                  refine hK.out _ _ (by first | exact p0 | exact q0 | exact q1 | exact r0 | exact (r1 _)) (fun hHeld => ?_)
                  clear hK K
                  try simp only [Act.put, List.setIfInBounds_toArray, List.set_cons_zero, List.set_cons_succ]
                  refine wpAnyH_take (i := 11) (v := ?_) rfl (by kernel_rfl) (by kernel_rfl) (by kernel_rfl) (fun _ _ _ h => h) (Or.inl ⟨by rfl, ?_⟩) (by assumption) ?_
                  rotate_left
                  · intro W hSw; (try dsimp only at hSw); go_simp; (try with_reducible rfl)
                  try simp only [Act.put, List.setIfInBounds_toArray, List.set_cons_zero, List.set_cons_succ]
                  refine wpAnyH_ready (rs := [12]) (by kernel_rfl) (by simp) ?_
                  refine AllReadyH.cons (o := _) rfl (fun K hK => ?_) ?_
                  ·
                    go_simp
                    refine hK.out _ _ (by first | exact p0 | exact q0 | exact q1 | exact r0 | exact (r1 _)) (fun hHeld => ?_)
                    clear hK K
                    try simp only [Act.put, List.setIfInBounds_toArray, List.set_cons_zero, List.set_cons_succ]
                    refine wpAnyH_done (by kernel_rfl) ?_ _
                    go_wp2; exact doc_round (by simpa [HLN.out] using TInv.snoc (xs := (ks.map tr).take n) HV5.out (fun _ q => q.elim) HX5.out (by rw [HLN.out]; exact HIN.out.1) HIN.out.2 (Below.refl _ _).drew HW.out.1 HW.out.2 ((Below.refl _ _).alloc (Nat.le_refl _) _) (by rw [HLN.out]; exact H4.out.1) H4.out.2.1 (H4.out.2.2.1.imp id (fun e => by rw [e]; simp))) HTE.out (H4.out.2.2.2 _) hltk
                  exact AllReadyH.nil
                exact AllReadyH.nil
              exact AllReadyH.nil
            exact AllReadyH.nil
          exact AllReadyH.nil
        exact AllReadyH.nil
      · have hge : ¬ (n : Int) < (ks.length : Int) := by omega
        obtain rfl : n = ks.length := by omega
        have hlm : (ks.map tr).length = ks.length := by simp
        obtain ⟨ts, hts⟩ : ∃ x, ks.map tr = x := ⟨_, rfl⟩
        rw [hts] at HV hlm
        rw [hts]
        rw [← hlm, List.take_length] at HV
        rw [List.take_length] at HK
        obtain ⟨Ak, ck, hkv⟩ := own_slice HK.out
        subst hkv
        obtain ⟨res, hres, hp⟩ := HV.out.res
        have hp0 := Lib.hid hp
        obtain ⟨r0, r1, r2, r3, hr4⟩ : ∃ a b c d, res = #[a, b, c, d] := by
          obtain ⟨l⟩ := res
          match l, hres with
          | [a, b, c, d], _ => exact ⟨a, b, c, d, rfl⟩
        subst hr4
        obtain ⟨inner, hin, hrep⟩ := HV.out.own
        obtain ⟨An, cn, hv⟩ := own_slice hin
        rw [hlm] at hv
        subst hv
        clear hlm
        have hq := HV.out.out
        have o0 := cell_of_row _ _ 0 _ _ _ hq
        have o1 := cell_of_row _ _ 1 _ _ _ hq
        have o2 := cell_of_row _ _ 2 _ _ _ hq
        have o3 := cell_of_row _ _ 3 _ _ _ hq
        have y0 := cell_of_row _ _ 0 _ _ _ hp
        have z0 := Go.frozen_of_row _ _ 0 _ _ hp
        have h1 := heap_setCell_same _ _ 0 _ _ (.int .i64 6) hp
        have y1 := cell_of_row _ _ 1 _ _ _ h1
        have z1 := Go.frozen_of_row _ _ 1 _ _ h1
        have h2 := heap_setCell_same _ _ 1 _ _ (.string ⟨#[]⟩) h1
        have y2 := cell_of_row _ _ 2 _ _ _ h2
        have z2 := Go.frozen_of_row _ _ 2 _ _ h2
        have h3 := heap_setCell_same _ _ 2 _ _ (.slice Ak ks.length ck) h2
        have y3 := cell_of_row _ _ 3 _ _ _ h3
        have z3 := Go.frozen_of_row _ _ 3 _ _ h3
        have h4 := heap_setCell_same _ _ 3 _ _ (.slice An ks.length cn) h3
        have H4 := Lib.hid h4
        clear h1 h2 h3 h4 hin hrep hq hp
        go_wp2
        (try simp only [Exit.inBlock, Exit.then])
        refine bodyPost_ret (cell_results rfl _ _ (w.heap.size) 42 _ (0, 0) _ rfl H4.out Tryd.underlying42 rfl (by kernel_rfl)) rfl ?_
        exact tree_end2 (doc_keys HK.out HV.out.ne.2.1 (fun q => own_ne HK.out hp0.out (by decide) (by rw [q]))) HV.out
end Go.Proofs.YtdjogkfgegopfaaDoor
namespace Go.Proofs.YtdjogkfgegopfaaDoor
open Go.RowKit Go.Maps Go.Proofs.YtdjogkfgegopfaaDoor.MFnPaMergeAgain Go.Proofs.YtdjogkfgegopfaaDoor.Pure Go.Proofs.YtdjogkfgegopfaaDoorW.PrintWords Go.Proofs.YtdjogkfgegopfaaDoorW.PrintLast
set_option linter.unusedVariables false
set_option linter.unusedSimpArgs false

theorem raw_string {w : World} {O : Nat → Prop} {r : Nat} {bs : List UInt8} (h : RawAt w O r bs) : ∃ c cap, w.heap[r]? = some (.cells #[.slice (some ⟨c, 0, none⟩) bs.length cap] 84 (0, 0)) ∧ (convert 84 9 (.slice (some ⟨c, 0, none⟩) bs.length cap)).run Tryd.prog w = .ok (.string ⟨bs.toArray⟩) w := by
  obtain ⟨c, cap, _, _, h3, _, _, _, h7⟩ := h
  refine ⟨c, cap, h3, ?_⟩
  have hl := run_loadCells_list (P := Tryd.prog) w ⟨c, 0, none⟩ (bs.map bv) (fun j u hj => by
    have hadd : (⟨c, 0, none⟩ : Addr).add j = ⟨c, j, none⟩ := by unfold Addr.add; split <;> simp_all
    rw [hadd]
    rw [List.getElem?_map] at hj
    cases hq : bs[j]? with
    | none => rw [hq] at hj; cases hj
    | some q => rw [hq] at hj; simp at hj; subst hj; exact h7 j q hq)
  have hm : bs.map bv = (bs.map (fun b => (b.toNat : Int))).map (Value.int .u8) := by simp [bv]
  have hln : (bs.map bv).length = bs.length := by simp
  rw [hln, hm] at hl
  rw [run_convert_bytes_string w 84 9 5 _ _ cap Tryd.underlying84 Tryd.underlying5 Tryd.underlying9, run_bytesToString w _ _ cap (bs.map (fun b => (b.toNat : Int))) hl, foldl_push_byteCells]
  simp [ByteArray.empty, ByteArray.emptyWithCapacity]
  rfl

theorem leaf_tree {w : World} {k : Int} {t : ByteArray} {E : Nat} : TreePost w Nil ⟨k, t, [], []⟩ (.returned (.agg #[.int .i64 k, .string t, .slice none 0 0, .slice none 0 0])) (w.alloc (.cells #[.int .i64 k, .string t, .slice none 0 0, .slice none 0 0] E)) := by
  refine ⟨_, rfl, .mk k t [] [] none none 0 0 (fun _ => []) (Nat.le_refl _) (Nat.le_refl _) (fun i hi => absurd hi (Nat.not_lt_zero _)) (fun i hi => absurd hi (Nat.not_lt_zero _)) (fun i v hv => by simp at hv), (Below.refl _ _).alloc (Nat.le_refl _) _⟩

set_option maxRecDepth 100000 in
set_option maxHeartbeats 1000000 in
theorem back_nil (w : World) : Calls Tryd.prog 40 #[.pointer none] w (TreePost w Nil ⟨0, ByteArray.empty, [], []⟩) := by
  have B0 := Lib.hid (heap_alloc_new w (.cells #[.int .i64 0, .string ⟨#[]⟩, .slice none 0 0, .slice none 0 0] 42))
  go_enter Tryd.func40, Tryd.ntmps40
  go_wp2
  (try simp only [Exit.inBlock, Exit.then])
  refine bodyPost_ret (cell_results rfl _ _ (w.heap.size) 42 _ (0, 0) _ rfl B0.out Tryd.underlying42 rfl (by kernel_rfl)) rfl ?_
  exact leaf_tree

theorem num_ne {bs l : List UInt8} (h : numHead bs = true) (hl : numHead l = false) : (bs == l) = false := by
  rw [beq_eq_false_iff_ne]
  rintro rfl
  rw [h] at hl
  cases hl
theorem num_head {bs : List UInt8} (h : numHead bs = true) : ∀ x, bs.head? = some x → x.toNat ≠ 34 := by
  intro x hx q
  cases bs with
  | nil => cases hx
  | cons c l =>
    simp only [List.head?_cons, Option.some.injEq] at hx
    subst hx
    simp only [numHead, Bool.or_eq_true, beq_iff_eq, Bool.and_eq_true, decide_eq_true_eq] at h
    rcases h with h | ⟨h, _⟩
    · rw [h] at q; revert q; decide
    · have : (48 : UInt8).toNat ≤ c.toNat := UInt8.le_iff_toNat_le.1 h
      have e : (48 : UInt8).toNat = 48 := by decide
      omega

set_option maxRecDepth 100000 in
set_option maxHeartbeats 2000000 in
theorem back_raw (w : World) (S : Nat → Prop) (b r : Nat) (k : Int) (t s : ByteArray) (bs : List UInt8) (hn : NodeAt w S b r (.pointer none) (.pointer none) 0) (hr : RawAt w S r bs) (hs : s = ⟨bs.toArray⟩)
    (h : (k = 0 ∧ t = ByteArray.empty ∧ bs = nullB) ∨ leafB k t = some bs) : Calls Tryd.prog 40 #[pv b] w (TreePost w Nil ⟨k, t, [], []⟩) := by
  obtain ⟨w1, hw1⟩ : ∃ W : World, w.alloc (.cells #[.int .i64 0, .string ⟨#[]⟩, .slice none 0 0, .slice none 0 0] 42) = W := ⟨_, rfl⟩
  have hb1 : Below w.heap.size w w1 := by rw [← hw1]; exact (Below.refl _ _).alloc (Nat.le_refl _) _
  have hn1 := hn.step (O' := S) (W := fun _ => False) (Only.of_below hb1) (fun _ _ _ q => q) (fun _ _ q => q)
  obtain ⟨c, cap, h3, hconv⟩ := raw_string (hr.step (O' := S) (W := fun _ => False) (Only.of_below hb1) (fun _ _ _ q => q) (fun _ _ q => q))
  rw [← hs] at hconv
  have c0 := cell_of_row _ b 0 _ _ _ hn1.2
  have c3 := cell_of_row _ b 3 _ _ _ hn1.2
  have c1 := cell_of_row _ r 0 _ _ _ h3
  have B0 : ∀ x y, Hid ((w.alloc (.cells #[.int .i64 x, .string y, .slice none 0 0, .slice none 0 0] 42)).heap[w.heap.size]? = some (.cells #[.int .i64 x, .string y, .slice none 0 0, .slice none 0 0] 42 (0, 0))) := fun x y => Lib.hid (heap_alloc_new w _)
  have B0 := Lib.hid B0
  have hsz : s.size ≤ 9223372036854775807 := by
    obtain ⟨_, cap, _, _, _, q1, q2, _⟩ := hr
    have : s.size = bs.length := by rw [hs]; rfl
    simp only [maxLen] at q2
    omega
  clear hn hr hb1 hn1 h3
  rw [← hw1] at hconv c0 c3 c1
  clear hw1
  have hst : s.toList = bs := by rw [hs, ByteArray.toList_eq]
  obtain ⟨L, hL⟩ : ∃ L, bs.length = L := ⟨_, rfl⟩
  rw [hL] at hconv c1
  clear hL
  rcases h with ⟨rfl, rfl, rfl⟩ | h
  · have hs0 : (s.toList == [110, 117, 108, 108]) = true := by rw [hst]; decide
    clear hs hst
    go_enter Tryd.func40, Tryd.ntmps40
    go_wp2
    (try simp only [Exit.inBlock, Exit.then])
    refine bodyPost_ret (cell_results rfl _ _ (w.heap.size) 42 _ (0, 0) _ rfl (B0.out 0 _).out Tryd.underlying42 rfl (by kernel_rfl)) rfl ?_
    exact leaf_tree
  · rcases leafB_kind h with rfl | rfl | rfl | rfl
    · have e : bs = falseB ∧ t = ByteArray.empty := by simp [leafB] at h; exact ⟨h.2.symm, h.1⟩
      obtain ⟨rfl, rfl⟩ := e
      have hs0 : (s.toList == [110, 117, 108, 108]) = false := by rw [hst]; decide
      have hs1 : (s.toList == [102, 97, 108, 115, 101]) = true := by rw [hst]; decide
      clear hs hst h
      go_enter Tryd.func40, Tryd.ntmps40
      go_wp2
      (try simp only [Exit.inBlock, Exit.then])
      refine bodyPost_ret (cell_results rfl _ _ (w.heap.size) 42 _ (0, 0) _ rfl (B0.out 1 _).out Tryd.underlying42 rfl (by kernel_rfl)) rfl ?_
      exact leaf_tree
    · have e : bs = trueB ∧ t = ByteArray.empty := by simp [leafB] at h; exact ⟨h.2.symm, h.1⟩
      obtain ⟨rfl, rfl⟩ := e
      have hs0 : (s.toList == [110, 117, 108, 108]) = false := by rw [hst]; decide
      have hs1 : (s.toList == [102, 97, 108, 115, 101]) = false := by rw [hst]; decide
      have hs2 : (s.toList == [116, 114, 117, 101]) = true := by rw [hst]; decide
      clear hs hst h
      go_enter Tryd.func40, Tryd.ntmps40
      go_wp2
      (try simp only [Exit.inBlock, Exit.then])
      refine bodyPost_ret (cell_results rfl _ _ (w.heap.size) 42 _ (0, 0) _ rfl (B0.out 2 _).out Tryd.underlying42 rfl (by kernel_rfl)) rfl ?_
      exact leaf_tree
    · have e : bs = t.data.toList ∧ numHead bs = true := by simp [leafB] at h; exact ⟨h.2.symm, h.2 ▸ h.1⟩
      obtain ⟨e, hnum⟩ := e
      have hs0 : (s.toList == [110, 117, 108, 108]) = false := by rw [hst]; exact num_ne hnum (by decide)
      have hs1 : (s.toList == [102, 97, 108, 115, 101]) = false := by rw [hst]; exact num_ne hnum (by decide)
      have hs2 : (s.toList == [116, 114, 117, 101]) = false := by rw [hst]; exact num_ne hnum (by decide)
      have hst2 : s = t := by rw [hs, e]
      subst hst2
      by_cases h1 : 1 < s.size
      · obtain ⟨x, hx, hx1⟩ : ∃ x : UInt8, s[0]'(by omega) = x ∧ ((x.toNat : Int) == 34) = false := ⟨_, rfl, by
          rw [beq_eq_false_iff_ne]
          have := num_head hnum
          rw [e] at this
          have h2 : s.data.toList.head? = some (s[0]'(by omega)) := by rw [List.head?_eq_getElem?, List.getElem?_eq_getElem (by rw [Array.length_toList]; show 0 < s.size; omega)]; rfl
          intro q
          exact this _ h2 (by omega)⟩
        have hg : decide (1 < (s.size : Int)) = true := decide_eq_true (by omega)
        have h0 : 0 < s.size := by omega
        clear hs hst h hnum e
        go_enter Tryd.func40, Tryd.ntmps40
        go_wp2
        (try simp only [Exit.inBlock, Exit.then])
        refine bodyPost_ret (cell_results rfl _ _ (w.heap.size) 42 _ (0, 0) _ rfl (B0.out 3 _).out Tryd.underlying42 rfl (by kernel_rfl)) rfl ?_
        exact leaf_tree
      · have hg : decide (1 < (s.size : Int)) = false := decide_eq_false (by omega)
        clear hs hst h hnum e
        go_enter Tryd.func40, Tryd.ntmps40
        go_wp2
        (try simp only [Exit.inBlock, Exit.then])
        refine bodyPost_ret (cell_results rfl _ _ (w.heap.size) 42 _ (0, 0) _ rfl (B0.out 3 _).out Tryd.underlying42 rfl (by kernel_rfl)) rfl ?_
        exact leaf_tree
    · obtain rfl := leafB4 h
      have hs3 : s = ⟨#[34]⟩ ++ t ++ ⟨#[34]⟩ := by rw [hs]
      have hz : s.size = t.size + 2 := by
        rw [hs3, ByteArray.size_append, ByteArray.size_append]
        have : (⟨#[34]⟩ : ByteArray).size = 1 := rfl
        omega
      have hl : s.toList = 34 :: (t.data.toList ++ [34]) := by rw [hst]; simp
      have hs0 : (s.toList == [110, 117, 108, 108]) = false := by rw [hl]; rfl
      have hs1 : (s.toList == [102, 97, 108, 115, 101]) = false := by rw [hl]; rfl
      have hs2 : (s.toList == [116, 114, 117, 101]) = false := by rw [hl]; rfl
      have h0 : 0 < s.size := by omega
      obtain ⟨x, hx, hx1⟩ : ∃ x : UInt8, s[0]'h0 = x ∧ ((x.toNat : Int) == 34) = true := ⟨_, rfl, by
        have h2 : s.data.toList[0]? = some (s[0]'h0) := by rw [List.getElem?_eq_getElem (by rw [Array.length_toList]; exact h0)]; rfl
        rw [← ByteArray.toList_eq, hl] at h2
        simp only [List.getElem?_cons_zero, Option.some.injEq] at h2
        rw [← h2]
        decide⟩
      have hex : s.extract 1 (t.size + 1) = t := by
        rw [hs3]
        apply ByteArray.ext
        apply Array.ext'
        rw [ByteArray.data_extract]
        simp [List.take_append, List.drop_append]
      have hg : decide (1 < (s.size : Int)) = true := decide_eq_true (by omega)
      have hw64 : (s.size : Int) - 1 = ((t.size + 1 : Nat) : Int) := by omega
      have ht1 : t.size + 1 ≤ s.size := by omega
      clear hs hst h hl hs3 hz
      go_enter Tryd.func40, Tryd.ntmps40
      go_wp2
      (try simp only [Exit.inBlock, Exit.then])
      refine bodyPost_ret (cell_results rfl _ _ (w.heap.size) 42 _ (0, 0) _ rfl (B0.out 4 _).out Tryd.underlying42 rfl (by kernel_rfl)) rfl ?_
      exact leaf_tree

theorem tree_lift {w w1 w2 : World} {T : S25} {cs : List Value} {a b c d : Value} (hb1 : Below w.heap.size w w1) (hz : w1.heap.size = w.heap.size + 1) (hx : TR w2 (fun i => Nil i ∨ New w1 i) T cs) (hb2 : Below w1.heap.size w1 w2) :
    TreePost w Nil T (.returned (.agg cs.toArray)) ((((w2.setCell ⟨w.heap.size, 0, none⟩ a).setCell ⟨w.heap.size, 1, none⟩ b).setCell ⟨w.heap.size, 2, none⟩ c).setCell ⟨w.heap.size, 3, none⟩ d) := by
  have ho := only4 w2 w.heap.size a b c d
  have s2 := hb2.size
  refine ⟨_, rfl, hx.step ho (fun i hi hs q => ?_) (fun i hi hs => ?_), (hb1.trans (hb2.mono (by omega))).trans (ho.below (fun i _ hi => by omega) (by omega))⟩
  · rcases hs with hs | hs
    · exact hs
    · unfold New at hs; omega
  · rcases hs with hs | hs
    · exact hs.elim
    · exact .inr (by unfold New at *; omega)

set_option maxRecDepth 100000 in
set_option maxHeartbeats 2000000 in
theorem back_arr (w : World) (O : Nat → Prop) (b r a : Nat) (T : S25) (hn : NodeAt w O b r (.pointer none) (pv a) 2)
    (HC : ∀ W, Below w.heap.size w W → Calls Tryd.prog 49 #[pv a] W (TreePost W Nil T)) :
    Calls Tryd.prog 40 #[pv b] w (TreePost w Nil T) := by
  obtain ⟨w1, hw1⟩ : ∃ W : World, w.alloc (.cells #[.int .i64 0, .string ⟨#[]⟩, .slice none 0 0, .slice none 0 0] 42) = W := ⟨_, rfl⟩
  have hb1 : Below w.heap.size w w1 := by rw [← hw1]; exact (Below.refl _ _).alloc (Nat.le_refl _) _
  have hz1 : w1.heap.size = w.heap.size + 1 := by rw [← hw1]; simp
  have hp : w1.heap[w.heap.size]? = some (.cells #[.int .i64 0, .string ⟨#[]⟩, .slice none 0 0, .slice none 0 0] 42 (0, 0)) := by rw [← hw1]; exact heap_alloc_new w _
  have hn1 := hn.step (O' := O) (W := fun _ => False) (Only.of_below hb1) (fun _ _ _ q => q) (fun _ _ q => q)
  have c0 := cell_of_row _ b 2 _ _ _ hn1.2
  have c3 := cell_of_row _ b 3 _ _ _ hn1.2
  have HCC := Lib.hid (HC w1 hb1)
  have HP := Lib.hid hp
  have HB := Lib.hid (And.intro hb1 hz1)
  clear hn hn1 HC hb1 hz1 hp
  go_enter Tryd.func40, Tryd.ntmps40
  go_wp2_with (first | (go_at_call 49; refine HCC.out.mono ?_; rintro e w2 ⟨cs, rfl, hx, hb2⟩; obtain ⟨E2, E3, e2, e3, rfl, -, -⟩ := hx.cells; have hp2 := (hb2.block w.heap.size (by have := HB.out.2; omega)).trans HP.out; have y0 := cell_of_row _ _ 0 _ _ _ hp2; have z0 := Go.frozen_of_row _ _ 0 _ _ hp2; have h1 := heap_setCell_same _ _ 0 _ _ (.int .i64 T.f0) hp2; have y1 := cell_of_row _ _ 1 _ _ _ h1; have z1 := Go.frozen_of_row _ _ 1 _ _ h1; have h2 := heap_setCell_same _ _ 1 _ _ (.string T.f1) h1; have y2 := cell_of_row _ _ 2 _ _ _ h2; have z2 := Go.frozen_of_row _ _ 2 _ _ h2; have h3 := heap_setCell_same _ _ 2 _ _ (.slice E2 T.f2.length e2) h2; have y3 := cell_of_row _ _ 3 _ _ _ h3; have z3 := Go.frozen_of_row _ _ 3 _ _ h3; have H4 := Lib.hid (heap_setCell_same _ _ 3 _ _ (.slice E3 T.f3.length e3) h3); have HX := Lib.hid (And.intro hx hb2); clear hx hb2 hp2 h1 h2 h3) | fail)
  (try simp only [Exit.inBlock, Exit.then])
  refine bodyPost_ret (cell_results rfl _ _ (w.heap.size) 42 _ (0, 0) _ rfl H4.out Tryd.underlying42 rfl (by kernel_rfl)) rfl ?_
  exact tree_lift HB.out.1 HB.out.2 HX.out.1 HX.out.2

set_option maxRecDepth 100000 in
set_option maxHeartbeats 2000000 in
theorem back_obj (w : World) (O : Nat → Prop) (b r a : Nat) (T : S25) (hn : NodeAt w O b r (pv a) (.pointer none) 1)
    (HC : ∀ W, Below w.heap.size w W → Calls Tryd.prog 48 #[pv a] W (TreePost W Nil T)) :
    Calls Tryd.prog 40 #[pv b] w (TreePost w Nil T) := by
  obtain ⟨w1, hw1⟩ : ∃ W : World, w.alloc (.cells #[.int .i64 0, .string ⟨#[]⟩, .slice none 0 0, .slice none 0 0] 42) = W := ⟨_, rfl⟩
  have hb1 : Below w.heap.size w w1 := by rw [← hw1]; exact (Below.refl _ _).alloc (Nat.le_refl _) _
  have hz1 : w1.heap.size = w.heap.size + 1 := by rw [← hw1]; simp
  have hp : w1.heap[w.heap.size]? = some (.cells #[.int .i64 0, .string ⟨#[]⟩, .slice none 0 0, .slice none 0 0] 42 (0, 0)) := by rw [← hw1]; exact heap_alloc_new w _
  have hn1 := hn.step (O' := O) (W := fun _ => False) (Only.of_below hb1) (fun _ _ _ q => q) (fun _ _ q => q)
  have c0 := cell_of_row _ b 1 _ _ _ hn1.2
  have c3 := cell_of_row _ b 3 _ _ _ hn1.2
  have HCC := Lib.hid (HC w1 hb1)
  have HP := Lib.hid hp
  have HB := Lib.hid (And.intro hb1 hz1)
  clear hn hn1 HC hb1 hz1 hp
  go_enter Tryd.func40, Tryd.ntmps40
  go_wp2_with (first | (go_at_call 48; refine HCC.out.mono ?_; rintro e w2 ⟨cs, rfl, hx, hb2⟩; obtain ⟨E2, E3, e2, e3, rfl, -, -⟩ := hx.cells; have hp2 := (hb2.block w.heap.size (by have := HB.out.2; omega)).trans HP.out; have y0 := cell_of_row _ _ 0 _ _ _ hp2; have z0 := Go.frozen_of_row _ _ 0 _ _ hp2; have h1 := heap_setCell_same _ _ 0 _ _ (.int .i64 T.f0) hp2; have y1 := cell_of_row _ _ 1 _ _ _ h1; have z1 := Go.frozen_of_row _ _ 1 _ _ h1; have h2 := heap_setCell_same _ _ 1 _ _ (.string T.f1) h1; have y2 := cell_of_row _ _ 2 _ _ _ h2; have z2 := Go.frozen_of_row _ _ 2 _ _ h2; have h3 := heap_setCell_same _ _ 2 _ _ (.slice E2 T.f2.length e2) h2; have y3 := cell_of_row _ _ 3 _ _ _ h3; have z3 := Go.frozen_of_row _ _ 3 _ _ h3; have H4 := Lib.hid (heap_setCell_same _ _ 3 _ _ (.slice E3 T.f3.length e3) h3); have HX := Lib.hid (And.intro hx hb2); clear hx hb2 hp2 h1 h2 h3) | fail)
  (try simp only [Exit.inBlock, Exit.then])
  refine bodyPost_ret (cell_results rfl _ _ (w.heap.size) 42 _ (0, 0) _ rfl H4.out Tryd.underlying42 rfl (by kernel_rfl)) rfl ?_
  exact tree_lift HB.out.1 HB.out.2 HX.out.1 HX.out.2

theorem back_any : ∀ (m : Nat) (T : S25) (z : Bool) (v : Value) (w : World) (S : Nat → Prop), SizeOf.sizeOf T ≤ m → lim 1099511627776 T → LN z w v T S → Calls Tryd.prog 40 #[v] w (TreePost w Nil T)
  | 0, T, z, v, w, S, hm, _, _ => by cases T; simp at hm
  | m + 1, T, z, v, w, S, hm, hl, h => by
    cases h with
    | nul => exact back_nil w
    | raw0 b r _ hz h1 h2 => exact back_raw w S b r 0 ByteArray.empty ⟨nullB.toArray⟩ nullB h1 h2 rfl (.inl ⟨rfl, rfl, rfl⟩)
    | leaf b r _ k t bs h0 h1 h2 => exact back_raw w S b r k t ⟨bs.toArray⟩ bs h1 h2 rfl (.inr h0)
    | arr b r a _ col vs ts h1 h2 h3 h4 h5 =>
      simp only [lim] at hl
      refine back_arr w _ b r a _ h1 fun W hW => backAry_any W _ a vs ts (h3.step (O' := fun i => S i ∧ col i = none) (W := fun _ => False) (Only.of_below hW) (fun _ _ _ q => q) (fun _ _ q => q)) h4 hl.2.1 (fun i v t W' hv ht hW' => ?_) (fun i hi => ?_)
      · have hb := hW.trans (hW'.mono hW.size)
        have hs := List.sizeOf_lt_of_mem (List.mem_of_getElem? ht)
        exact back_any m t z v W' _ (by simp at hm; omega) (limL_get hl.2.2 (List.mem_of_getElem? ht)) ((h5 i v t hv ht).step (S' := fun _ => True) (O := fun _ => False) (Only.of_below hb) (fun _ _ _ q => q) (fun _ _ _ => trivial))
      · exact (h5 i vs[i] (ts[i]'(by omega)) (List.getElem?_eq_getElem hi) (List.getElem?_eq_getElem (by omega))).ptr
    | obj b r d m' _ col ks f tr h1 h2 h3 h5 =>
      simp only [lim] at hl
      refine back_obj w _ b r d _ h1 fun W hW => backDoc_any W _ d m' ks f tr (h3.step (O' := fun i => S i ∧ col i = none) (W := fun _ => False) (Only.of_below hW) (fun _ _ _ q => q) (fun _ _ q => q)) hl.1 (fun k W' hk hW' => ?_) (fun k hk => (h5 k hk).ptr)
      have hb := hW.trans (hW'.mono hW.size)
      have hmem : tr k ∈ ks.map tr := List.mem_map.2 ⟨k, hk, rfl⟩
      have hs := List.sizeOf_lt_of_mem hmem
      exact back_any m (tr k) z (f k) W' _ (by simp at hm; omega) (limL_get hl.2.2 hmem) ((h5 k hk).step (S' := fun _ => True) (O := fun _ => False) (Only.of_below hb) (fun _ _ _ q => q) (fun _ _ _ => trivial))
end Go.Proofs.YtdjogkfgegopfaaDoor
namespace Go.Proofs.YtdjogkfgegopfaaDoor
open Go.RowKit Go.Maps Go.Proofs.YtdjogkfgegopfaaDoor.MFnPaMergeAgain Go.Proofs.YtdjogkfgegopfaaDoor.Pure Go.Proofs.YtdjogkfgegopfaaDoorW.PrintWords Go.Proofs.YtdjogkfgegopfaaDoorW.PrintLast
set_option linter.unusedVariables false
set_option linter.unusedSimpArgs false

theorem pruneM_map (tr : ByteArray → S25) : ∀ (ks : List ByteArray), pruneM ks (ks.map tr) = (ks.filter (fun k => decide ((tr k).f0 ≠ 0)), (ks.filter (fun k => decide ((tr k).f0 ≠ 0))).map (fun k => prune (tr k)))
  | [] => rfl
  | a :: ks => by
    simp only [List.map_cons, pruneM, pruneM_map tr ks]
    by_cases h : (tr a).f0 = 0
    · rw [if_pos h]
      simp [h]
    · rw [if_neg h]
      simp [h]
theorem pruneL_map : ∀ (vs : List S25), pruneL vs = vs.map prune
  | [] => rfl
  | v :: r => by simp only [pruneL, List.map_cons, pruneL_map r]
theorem prune_objE (ks : List ByteArray) (tr : ByteArray → S25) : prune ⟨6, ByteArray.empty, ks, ks.map tr⟩ = ⟨6, ByteArray.empty, ks.filter (fun k => decide ((tr k).f0 ≠ 0)), (ks.filter (fun k => decide ((tr k).f0 ≠ 0))).map (fun k => prune (tr k))⟩ := by
  conv => lhs; unfold prune
  rw [if_pos rfl, pruneM_map]
theorem prune_arrE (ts : List S25) : prune ⟨5, ByteArray.empty, [], ts⟩ = ⟨5, ByteArray.empty, [], ts.map prune⟩ := by
  conv => lhs; unfold prune
  rw [if_neg (by decide), if_pos rfl, pruneL_map]

def PrunePost (w : World) (v : Value) (T : S25) (S : Nat → Prop) : Ending → World → Prop := fun e w' => e = .returned (.tuple #[]) ∧ LN false w' v (prune T) (fun i => S i ∨ New w i) ∧ Only S w w'
/-- What pruneNulls does at a value that is not null. -/
def PruneOk (B : Nat) (v : Value) (T : S25) : Prop := ∀ W S o, LN false W v T S → T.f0 ≠ 0 → GLp B W → (∀ i, S i → B ≤ i) → Calls Tryd.prog 51 #[v, .pointer o] W (PrunePost W v T S)

/-- What an object's blocks are written of. -/
def DocW (O S : Nat → Prop) {α : Type} (col : Nat → Option α) : Nat → Prop := fun i => O i ∨ (S i ∧ col i ≠ none)

def keepK (ks : List ByteArray) (tr : ByteArray → S25) (todo : ByteArray → Bool) : List ByteArray := ks.filter (fun k => todo k || decide ((tr k).f0 ≠ 0))
theorem keepK_mem {ks : List ByteArray} {tr : ByteArray → S25} {todo : ByteArray → Bool} {k : ByteArray} : k ∈ keepK ks tr todo ↔ k ∈ ks ∧ (todo k = true ∨ (tr k).f0 ≠ 0) := by
  unfold keepK
  rw [List.mem_filter]
  simp

/-- Under way: todo is left. -/
structure PInv (B : Nat) (w : World) (O S : Nat → Prop) (d m r : Nat) (ks : List ByteArray) (f : ByteArray → Value) (tr : ByteArray → S25) (todo : ByteArray → Bool) (col : Nat → Option ByteArray) (c0 : Nat → Option ByteArray) (wr : World) : Prop where
  only : Only (DocW O S c0) w wr
  rb : w.heap.size ≤ r ∧ r < wr.heap.size ∧ col r = none
  old : ∀ i, i < w.heap.size → col i = c0 i
  doc : DocAt wr O d m (keepK ks tr todo) f
  rng : ∃ n g cnt, RangeIs wr m r n g todo cnt ∧ g = pick (keepK ks tr todo) f ∧ wr.rangeLeft m r = cnt
  kids : ∀ k, k ∈ keepK ks tr todo → LN false wr (f k) (if todo k = true then tr k else prune (tr k)) (fun i => (S i ∨ New w i) ∧ col i = some k)

structure PAsk (B : Nat) (w : World) (O S : Nat → Prop) {α : Type} (c0 : Nat → Option α) : Prop where
  gl : GLp B w
  ow : ∀ i, O i → S i ∧ c0 i = none ∧ i < w.heap.size
  sb : ∀ i, S i → B ≤ i

theorem PAsk.wb {B : Nat} {w : World} {O S : Nat → Prop} {α : Type} {c0 : Nat → Option α} (h : PAsk B w O S c0) : ∀ i, DocW O S c0 i → B ≤ i := by
  rintro i (q | q)
  · exact h.sb i (h.ow i q).1
  · exact h.sb i q.1

theorem PInv.gl {B : Nat} {w wr : World} {O S : Nat → Prop} {d m r : Nat} {ks : List ByteArray} {f : ByteArray → Value} {tr : ByteArray → S25} {todo : ByteArray → Bool} {col c0 : Nat → Option ByteArray} (h : PInv B w O S d m r ks f tr todo col c0 wr) (ha : PAsk B w O S c0) : GLp B wr := ha.gl.keep h.only ha.wb

theorem keepK_del {ks : List ByteArray} {tr : ByteArray → S25} {todo : ByteArray → Bool} {key : ByteArray} (h0 : (tr key).f0 = 0) : delK (keepK ks tr todo) key = keepK ks tr (fun z => todo z && decide (z ≠ key)) := by
  unfold delK keepK
  rw [List.filter_filter]
  apply List.filter_congr
  intro x _
  by_cases e : x = key
  · subst e; simp [h0]
  · simp [e]
theorem keepK_same {ks : List ByteArray} {tr : ByteArray → S25} {todo : ByteArray → Bool} {key : ByteArray} (h0 : (tr key).f0 ≠ 0) : keepK ks tr todo = keepK ks tr (fun z => todo z && decide (z ≠ key)) := by
  unfold keepK
  apply List.filter_congr
  intro x _
  by_cases e : x = key
  · subst e; simp [h0]
  · simp [e]

/-- A null member: taken out. -/
theorem PInv.drop {B : Nat} {w wr wn w1 w2 : World} {O S : Nat → Prop} {d m r cnt1 n : Nat} {ks : List ByteArray} {f : ByteArray → Value} {tr : ByteArray → S25} {todo : ByteArray → Bool} {col c0 : Nat → Option ByteArray} {key : ByteArray} (h : PInv B w O S d m r ks f tr todo col c0 wr) (ha : PAsk B w O S c0)
    (hk : key ∈ keepK ks tr todo) (h0 : (tr key).f0 = 0) (hrn : RangeIs wn m r n (pick (keepK ks tr todo) f) (fun z => todo z && decide (z ≠ key)) cnt1) (hg : wr.grownBy wn (some r)) (hsz : wn.heap.size = wr.heap.size) (hb : Below wn.heap.size wn w1)
    (hd : DocAt w2 O d m (delK (keepK ks tr todo) key) f) (ho : Only O w1 w2) (hr : ∀ r n f todo cnt, RangeIs w1 m r n f todo cnt → ¬ O r → ∃ cnt', RangeIs w2 m r n (upd f key none) (fun z => todo z && decide (z ≠ key)) cnt' ∧ cnt' ≤ cnt) :
    PInv B w O S d m r ks f tr (fun z => todo z && decide (z ≠ key)) col c0 w2 ∧ w2.rangeLeft m r ≤ cnt1 := by
  obtain ⟨hr1, hr2, hr3⟩ := h.rb
  have s0 := h.only.size
  have s1 := hb.size
  have s2 := ho.size
  have hOr : ¬ O r := fun q => by have := (ha.ow r q).2.2; omega
  have hmr : m ≠ r := by
    rintro rfl
    obtain ⟨D, left, hrr, _⟩ := hrn
    exact hrr.ne rfl
  have hm : m < wn.heap.size := hrn.owns.lt
  have e1 : w1.heap[m]? = wn.heap[m]? := hb.block m hm
  have e2 : w1.heap[r]? = wn.heap[r]? := hb.block r (by omega)
  obtain ⟨cnt', hR, hle⟩ := hr r n _ _ cnt1 (hrn.move e1 e2) hOr
  have htt : (fun z => (todo z && decide (z ≠ key)) && decide (z ≠ key)) = (fun z => todo z && decide (z ≠ key)) := by
    funext z; cases todo z <;> simp
  rw [htt] at hR
  have hall : Only (fun i => O i ∨ i = r) wr w2 := ((Only.of_grown (O := fun i => O i ∨ i = r) hg (fun i hi => by cases hi; exact .inr rfl)).trans (Only.of_below hb : Only (fun i => O i ∨ i = r) wn w1) (fun _ _ q => q) (fun _ _ q => q)).trans ho (fun _ _ q => q) (fun _ _ q => .inl q)
  refine ⟨⟨?_, ⟨hr1, by omega, hr3⟩, h.old, by rw [← keepK_del h0]; exact hd, ⟨n, _, cnt', hR, by rw [pick_del, keepK_del h0], hR.left_eq⟩, ?_⟩, by rw [hR.left_eq]; exact hle⟩
  · refine h.only.trans hall (fun _ _ q => q) (fun i hi q => ?_)
    rcases q with q | rfl
    · exact .inl q
    · omega
  · intro k hk2
    rw [keepK_mem] at hk2
    have hne : k ≠ key := by
      rintro rfl
      rcases hk2.2 with q | q
      · simp at q
      · exact q h0
    have hk1 : k ∈ keepK ks tr todo := keepK_mem.2 ⟨hk2.1, hk2.2.imp (fun q => by simp at q; exact q.1) id⟩
    have hi : (if (todo k && decide (k ≠ key)) = true then tr k else prune (tr k)) = (if todo k = true then tr k else prune (tr k)) := by simp [hne]
    rw [hi]
    refine (h.kids k hk1).step hall (fun i hi hs q => ?_) (fun i hi hs => hs)
    rcases q with q | rfl
    · have h1 := ha.ow i q
      have h2 := h.old i h1.2.2
      rw [hs.2, h1.2.1] at h2
      cases h2
    · rw [hs.2] at hr3
      cases hr3

/-- Another member: pruned itself. -/
theorem PInv.keep {B : Nat} {w wr wn w2 : World} {O S : Nat → Prop} {d m r cnt1 n : Nat} {ks : List ByteArray} {f : ByteArray → Value} {tr : ByteArray → S25} {todo : ByteArray → Bool} {col c0 : Nat → Option ByteArray} {key : ByteArray} (h : PInv B w O S d m r ks f tr todo col c0 wr) (ha : PAsk B w O S c0)
    (hk : key ∈ keepK ks tr todo) (h0 : (tr key).f0 ≠ 0) (hrn : RangeIs wn m r n (pick (keepK ks tr todo) f) (fun z => todo z && decide (z ≠ key)) cnt1) (hg : wr.grownBy wn (some r)) (hsz : wn.heap.size = wr.heap.size)
    (hln : LN false w2 (f key) (prune (tr key)) (fun i => ((S i ∨ New w i) ∧ col i = some key) ∨ New wn i)) (ho : Only (fun i => (S i ∨ New w i) ∧ col i = some key) wn w2) :
    ∃ col, PInv B w O S d m r ks f tr (fun z => todo z && decide (z ≠ key)) col c0 w2 ∧ w2.rangeLeft m r = cnt1 := by
  obtain ⟨hr1, hr2, hr3⟩ := h.rb
  have s0 := h.only.size
  have s2 := ho.size
  have hm : m < wn.heap.size := hrn.owns.lt
  have hOm : ¬ ((S m ∨ New w m) ∧ col m = some key) := by
    rintro ⟨_, q⟩
    obtain ⟨_, _, _, _, _, _, _, h5, _⟩ := h.doc
    have h1 := ha.ow m h5
    rw [h.old m h1.2.2, h1.2.1] at q
    cases q
  have hOr : ¬ ((S r ∨ New w r) ∧ col r = some key) := by
    rintro ⟨_, q⟩
    rw [hr3] at q
    cases q
  have hR := hrn.move (ho.block m hm hOm) (ho.block r (by omega) hOr)
  have hall : Only (fun i => ((S i ∨ New w i) ∧ col i = some key) ∨ i = r) wr w2 := (Only.of_grown (O := fun i => ((S i ∨ New w i) ∧ col i = some key) ∨ i = r) hg (fun i hi => by cases hi; exact .inr rfl)).trans ho (fun _ _ q => q) (fun _ _ q => .inl q)
  refine ⟨fun j => if wn.heap.size ≤ j then some key else col j, ⟨?_, ⟨hr1, by omega, by rw [if_neg (by omega)]; exact hr3⟩, fun i hi => by rw [if_neg (by omega)]; exact h.old i hi, ?_, ⟨n, _, cnt1, hR, by rw [keepK_same h0], hR.left_eq⟩, ?_⟩, hR.left_eq⟩
  · refine h.only.trans hall (fun _ _ q => q) (fun i hi q => ?_)
    rcases q with ⟨q1, q2⟩ | rfl
    · rw [h.old i hi] at q2
      rcases q1 with q1 | q1
      · exact .inr ⟨q1, by rw [q2]; simp⟩
      · unfold New at q1; omega
    · omega
  · rw [← keepK_same h0]
    refine h.doc.step hall (fun i hi hs q => ?_) (fun i hi hs => hs)
    rcases q with ⟨_, q2⟩ | rfl
    · have h1 := ha.ow i hs
      rw [h.old i h1.2.2, h1.2.1] at q2
      cases q2
    · have := (ha.ow _ hs).2.2; omega
  · intro k hk2
    rw [← keepK_same h0] at hk2
    by_cases e : k = key
    · subst e
      have hi : (if (todo k && decide (k ≠ k)) = true then tr k else prune (tr k)) = prune (tr k) := by simp
      rw [hi]
      refine hln.bound.mono (fun i hi => ?_)
      rcases hi with ⟨⟨q1, q2⟩ | q, q3⟩
      · refine ⟨q1, ?_⟩
        by_cases hi : wn.heap.size ≤ i
        · rw [if_pos hi]
        · rw [if_neg hi]; exact q2
      · exact ⟨.inr (by unfold New at *; omega), by rw [if_pos (show wn.heap.size ≤ i from q)]⟩
    · have hi : (if (todo k && decide (k ≠ key)) = true then tr k else prune (tr k)) = (if todo k = true then tr k else prune (tr k)) := by simp [e]
      rw [hi]
      refine (h.kids k hk2).step hall (fun i hi hs q => ?_) (fun i hi hs => ⟨hs.1, by rw [if_neg (by omega)]; exact hs.2⟩)
      rcases q with ⟨_, q2⟩ | rfl
      · rw [hs.2] at q2; exact e (Option.some.inj q2)
      · rw [hs.2] at hr3; cases hr3

def DocPrune (w : World) (O S : Nat → Prop) (d m : Nat) (ks : List ByteArray) (f : ByteArray → Value) (tr : ByteArray → S25) (c0 : Nat → Option ByteArray) : Ending → World → Prop := fun e w' => e = .returned (pv d) ∧ Only (DocW O S c0) w w' ∧ ∃ col : Nat → Option ByteArray, (∀ i, i < w.heap.size → col i = c0 i) ∧ DocAt w' O d m (ks.filter (fun k => decide ((tr k).f0 ≠ 0))) f ∧
  ∀ k, k ∈ ks → (tr k).f0 ≠ 0 → LN false w' (f k) (prune (tr k)) (fun i => (S i ∨ New w i) ∧ col i = some k)

theorem PInv.done {B : Nat} {w wr : World} {O S : Nat → Prop} {d m r : Nat} {ks : List ByteArray} {f : ByteArray → Value} {tr : ByteArray → S25} {todo : ByteArray → Bool} {col c0 : Nat → Option ByteArray} (h : PInv B w O S d m r ks f tr todo col c0 wr) (hks : ∀ k, k ∈ ks → k.size ≤ maxLen) (ht : ∀ k : ByteArray, k.size ≤ maxLen → todo k = false) : DocPrune w O S d m ks f tr c0 (.returned (pv d)) wr := by
  have he : keepK ks tr todo = ks.filter (fun k => decide ((tr k).f0 ≠ 0)) := by
    unfold keepK
    apply List.filter_congr
    intro x hx
    simp [ht x (hks x hx)]
  refine ⟨rfl, h.only, col, h.old, by rw [← he]; exact h.doc, fun k hk h0 => ?_⟩
  have := h.kids k (keepK_mem.2 ⟨hk, .inr h0⟩)
  rw [ht k (hks k hk)] at this
  exact this

theorem LN.null {w : World} {v : Value} {T : S25} {S : Nat → Prop} (h : LN false w v T S) (h0 : T.f0 = 0) : v = .pointer none := by
  cases h with
  | nul => rfl
  | raw0 _ _ _ q => cases q
  | leaf b r _ k t bs q => rcases leafB_kind q with rfl | rfl | rfl | rfl <;> simp at h0
  | arr => simp at h0
  | obj => simp at h0
theorem LN.some {w : World} {v : Value} {T : S25} {S : Nat → Prop} (h : LN false w v T S) (h0 : T.f0 ≠ 0) : ∃ b, v = pv b := by
  cases h with
  | nul => simp at h0
  | raw0 _ _ _ q => cases q
  | leaf b => exact ⟨b, rfl⟩
  | arr b => exact ⟨b, rfl⟩
  | obj b => exact ⟨b, rfl⟩

set_option maxRecDepth 1000000 in
set_option maxHeartbeats 4000000 in
theorem pruneDoc_any (B : Nat) (w : World) (O S : Nat → Prop) (d m : Nat) (ks : List ByteArray) (f : ByteArray → Value) (tr : ByteArray → S25) (c0 : Nat → Option ByteArray) (o : Option Addr) (ha : PAsk B w O S c0) (hd : DocAt w O d m ks f) (hl : ks.length ≤ 1099511627776)
    (hk : ∀ k, k ∈ ks → LN false w (f k) (tr k) (fun i => S i ∧ c0 i = some k)) (hks : ∀ k, k ∈ ks → k.size ≤ maxLen) (IH : ∀ k, k ∈ ks → PruneOk B (f k) (tr k)) :
    Calls Tryd.prog 60 #[pv d, .pointer o] w (DocPrune w O S d m ks f tr c0) := by
  obtain ⟨self, kv, opts, h1, h2, h3, h4⟩ := id hd
  have c2 := cell_of_row _ d 2 _ _ _ h1
  have H3 := Lib.hid h3
  have HA := Lib.hid ha
  have HI := Lib.hid IH
  have HKS := Lib.hid hks
  have hall : keepK ks tr (fun k => (pick ks f k).isSome) = ks := by
    unfold keepK
    apply List.filter_eq_self.2
    intro x hx
    simp [pick_in hx]
  have HS : ∀ wn cnt, RangeIs wn m w.heap.size ks.length (pick ks f) (fun k => (pick ks f k).isSome) cnt → w.grownBy wn none → wn.heap.size = w.heap.size + 1 → PInv B w O S d m w.heap.size ks f tr (fun k => (pick ks f k).isSome) (fun i => if i < w.heap.size then c0 i else none) c0 wn := by
    intro wn cnt hr hg hz
    have ho : Only (fun _ => False) w wn := Only.of_grown hg (fun i hi => by cases hi)
    refine ⟨ho.mono (fun _ _ q => q.elim), ⟨Nat.le_refl _, by omega, by rw [if_neg (by omega)]⟩, fun i hi => if_pos hi, ?_, ⟨_, _, cnt, hr, by rw [hall], hr.left_eq⟩, fun k hkk => ?_⟩
    · rw [hall]
      exact hd.step ho (fun _ _ _ q => q) (fun i hi q => q)
    · rw [hall] at hkk
      have : (pick ks f k).isSome = true := by rw [pick_in hkk]; rfl
      rw [if_pos this]
      exact (hk k hkk).step ho (fun _ _ _ q => q) (fun i hi q => ⟨.inl q.1, by rw [if_pos hi]; exact q.2⟩)
  have HS1 := Lib.hid HS
  clear h1 h2 h3 h4 ha IH hd hk hks hall HS
  go_enter Tryd.func60, Tryd.ntmps60
  go_wp2_with (first | (at_range; refine wp_range _ rfl _ rfl m ks.length (pick ks f) rfl H3.out ?_; intro wn cnt hr hg hz; have HP := Lib.hid (HS1.out wn cnt hr hg hz); clear hr hg hz) | fail)
  go_frame
  go_loopw [] (fun wr => ∃ (todo : ByteArray → Bool) (col : Nat → Option ByteArray), Hid (PInv B w O S d m w.heap.size ks f tr todo col c0 wr)) (fun wr => wr.rangeLeft m w.heap.size)
  case atStart => exact ⟨_, _, HP⟩
  case round =>
    obtain ⟨todo, col, HP⟩ := hrel
    obtain ⟨n, g, cnt, hr, rfl, hrl⟩ := HP.out.rng
    have HR := Lib.hid hr
    have HRL := Lib.hid hrl
    clear hr hrl
    go_wp2_with (first | (at_next; refine wp_next _ rfl _ rfl m w.heap.size n (pick (keepK ks tr todo) f) todo cnt rfl HR.out ?_ ?_) | fail)
    · intro h0 ht
      have HD := Lib.hid (HP.out.done HKS.out ht)
      clear ht h0
      go_wp2
      go_ret
      exact HD.out
    · intro key v wn cnt1 hksz htodo hpk hrn0 hlt hg hsz hen
      have hrn : RangeIs wn m w.heap.size n (pick (keepK ks tr todo) f) (fun z => todo z && decide (z ≠ key)) cnt1 := by
        have e : (fun z => todo z && !decide (z = key)) = (fun z => todo z && decide (z ≠ key)) := by funext z; simp
        rw [← e]
        exact hrn0
      clear hrn0
      have hkk : key ∈ keepK ks tr todo := Classical.byContradiction fun q => by rw [pick_out q] at hpk; cases hpk
      rw [pick_in hkk] at hpk
      obtain rfl : f key = v := Option.some.inj hpk
      have hki : key ∈ ks := (keepK_mem.1 hkk).1
      have hln := HP.out.kids key hkk
      rw [if_pos htodo] at hln
      have hon : Only (fun i => i = w.heap.size) wr wn := Only.of_grown hg (fun i hi => by cases hi; rfl)
      obtain ⟨rb1, rb2, rb3⟩ := HP.out.rb
      have hOr : ∀ i, O i → i ≠ w.heap.size := fun i hi e => by have := (HA.out.ow i hi).2.2; omega
      have hdn := HP.out.doc.step (O' := O) hon (fun i hi hs q => hOr i hs q) (fun _ _ q => q)
      by_cases h0 : (tr key).f0 = 0
      · have hnil := hln.null h0
        have HDW : Hid (∀ o, DocAt (wn.alloc o) O d m (keepK ks tr todo) f) := Lib.hid fun o => hdn.step (W := fun _ => False) (Only.alloc wn o) (fun _ _ _ q => q) (fun _ _ q => q)
        have hlen : (keepK ks tr todo).length ≤ 1099511627776 := Nat.le_trans (List.length_filter_le _ _) hl
        have HC : Hid (∀ o w2, DocAt w2 O d m (delK (keepK ks tr todo) key) f → Only O (wn.alloc o) w2 → (∀ r n f todo cnt, RangeIs (wn.alloc o) m r n f todo cnt → ¬ O r → ∃ cnt', RangeIs w2 m r n (upd f key none) (fun z => todo z && decide (z ≠ key)) cnt' ∧ cnt' ≤ cnt) → (∃ (todo : ByteArray → Bool) (col : Nat → Option ByteArray), Hid (PInv B w O S d m w.heap.size ks f tr todo col c0 w2)) ∧ w2.rangeLeft m w.heap.size < wr.rangeLeft m w.heap.size) := Lib.hid fun o w2 hd2 ho2 hr2 => by
          obtain ⟨p1, p2⟩ := HP.out.drop HA.out hkk h0 hrn hg hsz ((Below.refl _ _).alloc (Nat.le_refl _) o) hd2 ho2 hr2
          exact ⟨⟨_, _, Lib.hid p1⟩, by rw [HRL.out]; omega⟩
        have HLEN := Lib.hid hlen
        rw [hnil] at hen
        rw [hnil]
        clear hln hon hOr hdn hnil hrn hg hsz hpk htodo rb1 rb2 rb3 hlen hlt
        go_wp2_with (first | (go_at_call 63; refine (remove_in _ O d m (keepK ks tr todo) f key _ (HDW.out _) hkk HLEN.out).mono ?_; rintro e w2 ⟨rfl, hd2, ho2, hr2⟩; have HF := Lib.hid (HC.out _ w2 hd2 ho2 hr2); clear hd2 ho2 hr2) | fail)
        exact HF.out
      · obtain ⟨b, hb⟩ := hln.some h0
        have hlnn := hln.step (S' := fun i => (S i ∨ New w i) ∧ col i = some key) hon (fun i hi hs q => by rw [q] at hs; rw [rb3] at hs; cases hs.2) (fun i hi q => q)
        have hgl : GLp B wn := (HP.out.gl HA.out).keep hon (fun i hi => by have := HA.out.gl.1; omega)
        have HPR := Lib.hid (HI.out key hki wn _ o hlnn h0 hgl (fun i hi => by
          rcases hi.1 with q | q
          · exact HA.out.sb i q
          · have := HA.out.gl.1; unfold New at q; omega))
        have HC : Hid (∀ w2, LN false w2 (f key) (prune (tr key)) (fun i => ((S i ∨ New w i) ∧ col i = some key) ∨ New wn i) → Only (fun i => (S i ∨ New w i) ∧ col i = some key) wn w2 → (∃ (todo : ByteArray → Bool) (col : Nat → Option ByteArray), Hid (PInv B w O S d m w.heap.size ks f tr todo col c0 w2)) ∧ w2.rangeLeft m w.heap.size < wr.rangeLeft m w.heap.size) := Lib.hid fun w2 hl2 ho2 => by
          obtain ⟨col', p1, p2⟩ := HP.out.keep HA.out hkk h0 hrn hg hsz hl2 ho2
          exact ⟨⟨_, _, Lib.hid p1⟩, by rw [p2, HRL.out]; exact hlt⟩
        rw [hb] at hen HPR HC
        rw [hb]
        clear hln hlnn hon hOr hdn hb hrn hg hsz hpk htodo rb1 rb2 rb3 hgl hlt
        go_wp2_with (first | (go_at_call 51; refine HPR.out.mono ?_; rintro e w2 ⟨rfl, hl2, ho2⟩; have HF := Lib.hid (HC.out w2 hl2 ho2); clear hl2 ho2) | fail)
        exact HF.out
end Go.Proofs.YtdjogkfgegopfaaDoor
namespace Go.Proofs.YtdjogkfgegopfaaDoor
open Go.RowKit Go.Maps Go.Proofs.YtdjogkfgegopfaaDoor.MFnPaMergeAgain Go.Proofs.YtdjogkfgegopfaaDoor.Pure Go.Proofs.YtdjogkfgegopfaaDoorW.PrintWords Go.Proofs.YtdjogkfgegopfaaDoorW.PrintLast
set_option linter.unusedVariables false
set_option linter.unusedSimpArgs false

structure AInv (w : World) (O S : Nat → Prop) (nv0 : Value) (a n : Nat) (vs : List Value) (ts : List S25) (nv : Value) (col c0 : Nat → Option Nat) (j : Nat) (wr : World) : Prop where
  only : Only (DocW O S c0) w wr
  old : ∀ i, i < w.heap.size → col i = c0 i
  ary : AryAt wr O a vs
  row : wr.ownsRow 0 62 1 nv0 vs.length vs ∧ ∀ k, nv0.ownBlock = some k → O k
  own : wr.ownsRow w.heap.size 62 1 nv n (vs.take n)
  ownS : ∀ k, nv.ownBlock = some k → col k = none
  kids : ∀ i v t, vs[i]? = some v → ts[i]? = some t → LN false wr v (if i < j then prune t else t) (fun x => (S x ∨ New w x) ∧ col x = some i)

theorem AInv.kid {B : Nat} {w wr w2 : World} {O S : Nat → Prop} {a n : Nat} {vs : List Value} {ts : List S25} {nv0 nv v : Value} {t : S25} {col c0 : Nat → Option Nat} (h : AInv w O S nv0 a n vs ts nv col c0 n wr) (ha : PAsk B w O S c0) (hv : vs[n]? = some v) (ht : ts[n]? = some t)
    (hln : LN false w2 v (prune t) (fun i => ((S i ∨ New w i) ∧ col i = some n) ∨ New wr i)) (ho : Only (fun i => (S i ∨ New w i) ∧ col i = some n) wr w2) : ∃ col, AInv w O S nv0 a n vs ts nv col c0 (n + 1) w2 := by
  have s0 := h.only.size
  have s2 := ho.size
  refine ⟨fun j => if wr.heap.size ≤ j then some n else col j, h.only.trans ho (fun _ _ q => q) (fun i hi q => ?_), fun i hi => by rw [if_neg (by omega)]; exact h.old i hi, ?_, ?_, ?_, fun k hk => ?_, fun i u s hu hs => ?_⟩
  · rw [h.old i hi] at q
    rcases q with ⟨q1 | q1, q2⟩
    · exact .inr ⟨q1, by rw [q2]; simp⟩
    · unfold New at q1; omega
  · refine h.ary.step ho (fun i hi hs q => ?_) (fun _ _ q => q)
    have h1 := ha.ow i hs
    have := h.old i h1.2.2
    rw [q.2, h1.2.1] at this
    cases this
  · refine ⟨own_move h.row.1 (fun k hk => ho.block k (own_lt h.row.1 k hk) (fun q => ?_)), h.row.2⟩
    have h1 := ha.ow k (h.row.2 k hk)
    have := h.old k h1.2.2
    rw [q.2, h1.2.1] at this
    cases this
  · exact own_move h.own (fun k hk => ho.block k (own_lt h.own k hk) (fun q => by have := h.ownS k hk; rw [q.2] at this; cases this))
  · have := own_lt h.own k hk
    rw [if_neg (by omega)]
    exact h.ownS k hk
  · by_cases e : i = n
    · subst e
      rw [hv] at hu
      rw [ht] at hs
      cases hu
      cases hs
      rw [if_pos (by omega)]
      refine hln.bound.mono (fun j hj => ?_)
      rcases hj with ⟨⟨q1, q2⟩ | q, q3⟩
      · refine ⟨q1, ?_⟩
        by_cases hjr : wr.heap.size ≤ j
        · rw [if_pos hjr]
        · rw [if_neg hjr]; exact q2
      · exact ⟨.inr (by unfold New at *; omega), by rw [if_pos (show wr.heap.size ≤ j from q)]⟩
    · have hi : (if i < n + 1 then prune s else s) = (if i < n then prune s else s) := by
        by_cases q : i < n
        · rw [if_pos q, if_pos (by omega)]
        · rw [if_neg q, if_neg (by omega)]
      rw [hi]
      refine (h.kids i u s hu hs).step ho (fun j hj hs q => ?_) (fun j hj hs => ⟨hs.1, by rw [if_neg (by omega)]; exact hs.2⟩)
      rw [hs.2] at q
      exact e (Option.some.inj q.2)

theorem AInv.same {w wr : World} {O S : Nat → Prop} {a n : Nat} {vs : List Value} {ts : List S25} {nv0 nv v : Value} {t : S25} {col c0 : Nat → Option Nat} (h : AInv w O S nv0 a n vs ts nv col c0 n wr) (hv : vs[n]? = some v) (ht : ts[n]? = some t) (h0 : t.f0 = 0) : AInv w O S nv0 a n vs ts nv col c0 (n + 1) wr := by
  refine ⟨h.only, h.old, h.ary, h.row, h.own, h.ownS, fun i u s hu hs => ?_⟩
  have := h.kids i u s hu hs
  by_cases e : i = n
  · subst e
    rw [ht] at hs
    cases hs
    rw [if_neg (by omega)] at this
    rw [if_pos (by omega), prune_leaf (by omega) (by omega)]
    exact this
  · have hi : (if i < n + 1 then prune s else s) = (if i < n then prune s else s) := by
      by_cases q : i < n
      · rw [if_pos q, if_pos (by omega)]
      · rw [if_neg q, if_neg (by omega)]
    rw [hi]
    exact this

theorem AInv.snoc {B : Nat} {w wr w3 w4 : World} {O S : Nat → Prop} {a n : Nat} {vs : List Value} {ts : List S25} {nv0 nv nv1 v : Value} {col c0 : Nat → Option Nat} (h : AInv w O S nv0 a n vs ts nv col c0 (n + 1) wr) (ha : PAsk B w O S c0) (hv : vs[n]? = some v) (hb3 : Below wr.heap.size wr w3)
    (ho : w4.ownsRow w.heap.size 62 1 nv1 (n + 1) (vs.take n ++ [v])) (hg : w3.grownBy w4 nv.ownBlock) (hat : nv1.ownBlock = nv.ownBlock ∨ ∃ b, nv1.ownBlock = some b ∧ w3.heap.size ≤ b) : ∃ col, AInv w O S nv0 a (n + 1) vs ts nv1 col c0 (n + 1) w4 := by
  have s0 := h.only.size
  have s3 := hb3.size
  have s4 := hg.size
  have hall : Only (fun i => nv.ownBlock = some i) wr w4 := (Only.of_below hb3 : Only (fun i => nv.ownBlock = some i) wr w3).trans (Only.of_grown hg (fun i hi => hi)) (fun _ _ q => q) (fun _ _ q => q)
  have hn : n < vs.length := (List.getElem?_eq_some_iff.1 hv).1
  have hnb : ∀ i, nv.ownBlock = some i → w.heap.size ≤ i := fun i hi => own_base h.own i hi
  refine ⟨fun j => if wr.heap.size ≤ j then none else col j, h.only.trans hall (fun _ _ q => q) (fun i hi q => by have := hnb i q; omega), fun i hi => by rw [if_neg (by omega)]; exact h.old i hi, ?_, ⟨own_move h.row.1 (fun k hk => hall.block k (own_lt h.row.1 k hk) (fun q => by have := hnb k q; have := (ha.ow k (h.row.2 k hk)).2.2; omega)), h.row.2⟩, ?_, fun k hk => ?_, fun i u s hu hs => ?_⟩
  · exact h.ary.step hall (fun i hi hs q => by have := hnb i q; have := (ha.ow i hs).2.2; omega) (fun _ _ q => q)
  · rw [List.take_succ_eq_append_getElem hn]
    rw [List.getElem?_eq_getElem hn] at hv
    rw [Option.some.inj hv]
    exact ho
  · rcases hat with q | ⟨b, hb, hle⟩
    · rw [q] at hk
      have := own_lt h.own k hk
      rw [if_neg (by omega)]
      exact h.ownS k hk
    · rw [hb] at hk
      cases hk
      rw [if_pos (by omega)]
  · refine (h.kids i u s hu hs).step hall (fun j hj hs q => ?_) (fun j hj hs => ⟨hs.1, by rw [if_neg (by omega)]; exact hs.2⟩)
    have := h.ownS j q
    rw [hs.2] at this
    cases this

def ArrPrune (w : World) (O S : Nat → Prop) (a : Nat) (vs : List Value) (ts : List S25) (c0 : Nat → Option Nat) : Ending → World → Prop := fun e w' => e = .returned (pv a) ∧ Only (DocW O S c0) w w' ∧ ∃ col : Nat → Option Nat, (∀ i, i < w.heap.size → col i = c0 i) ∧ AryAt w' (fun i => O i ∨ (New w i ∧ col i = none)) a vs ∧
  ∀ i v t, vs[i]? = some v → ts[i]? = some t → LN false w' v (prune t) (fun x => (S x ∨ New w x) ∧ col x = some i)

theorem AInv.done {B : Nat} {w wr : World} {O S : Nat → Prop} {a n : Nat} {vs : List Value} {ts : List S25} {nv0 nv : Value} {col c0 : Nat → Option Nat} (h : AInv w O S nv0 a n vs ts nv col c0 n wr) (ha : PAsk B w O S c0) (hn : n = vs.length) (hlt : vs.length = ts.length) : ArrPrune w O S a vs ts c0 (.returned (pv a)) (wr.setCell ⟨a, 1, none⟩ nv) := by
  subst hn
  obtain ⟨self, nv2, h1, h2, h3, h4⟩ := h.ary
  have hst : Only (fun i => i = a) wr (wr.setCell ⟨a, 1, none⟩ nv) := Only.set wr a 1 nv rfl
  have hoa := ha.ow a h3
  have hown := h.own
  rw [List.take_length] at hown
  refine ⟨rfl, h.only.trans hst (fun _ _ q => q) (fun i _ q => by subst q; exact .inl h3), col, h.old, ⟨self, nv, ?_, ?_, .inl h3, fun k hk => .inr ⟨own_base hown k hk, h.ownS k hk⟩⟩, fun i v t hv ht => ?_⟩
  · have := heap_setCell_same _ a 1 _ _ nv h1
    simpa using this
  · exact own_setCell (own_weaken hown (Nat.zero_le _)) (p := ⟨a, 1, none⟩) (fun q => own_ne hown h1 (by decide) q) nv
  · have hi : i < vs.length := (List.getElem?_eq_some_iff.1 hv).1
    have := h.kids i v t hv ht
    rw [if_pos hi] at this
    refine this.step hst (fun j hj hs q => ?_) (fun _ _ q => q)
    subst q
    have h5 := h.old _ hoa.2.2
    rw [hs.2, hoa.2.1] at h5
    cases h5

theorem AInv.gl {B : Nat} {w wr : World} {O S : Nat → Prop} {a n j : Nat} {vs : List Value} {ts : List S25} {nv0 nv : Value} {col c0 : Nat → Option Nat} (h : AInv w O S nv0 a n vs ts nv col c0 j wr) (ha : PAsk B w O S c0) : GLp B wr := ha.gl.keep h.only ha.wb

theorem ary_round {w W : World} {O S : Nat → Prop} {a n : Nat} {vs : List Value} {ts : List S25} {nv0 nv : Value} {c0 : Nat → Option Nat} (m : Nat) (h : ∃ col, AInv w O S nv0 a (n + 1) vs ts nv col c0 (n + 1) W) (hn : n < m) :
    (∃ (n_1 : Nat) (nv_1 : Value) (col : Nat → Option Nat), n_1 ≤ m ∧ nv = nv_1 ∧ Value.int IntKind.i64 ((n : Int) + 1) = Value.int IntKind.i64 (n_1 : Int) ∧ Hid (AInv w O S nv0 a n_1 vs ts nv_1 col c0 n_1 W)) ∧ m - (intOf (Value.int IntKind.i64 ((n : Int) + 1))).toNat < m - (intOf (Value.int IntKind.i64 (n : Int))).toNat := by
  obtain ⟨col, h⟩ := h
  exact ⟨⟨n + 1, nv, col, by omega, rfl, by go_num, Lib.hid h⟩, by simp [intOf]; omega⟩

set_option maxRecDepth 1000000 in
set_option maxHeartbeats 4000000 in
theorem pruneAry_any (B : Nat) (w : World) (O S : Nat → Prop) (a : Nat) (vs : List Value) (ts : List S25) (c0 : Nat → Option Nat) (o : Option Addr) (ha : PAsk B w O S c0) (hd : AryAt w O a vs) (hlen : vs.length = ts.length) (hl : ts.length ≤ 1099511627776)
    (hk : ∀ i v t, vs[i]? = some v → ts[i]? = some t → LN false w v t (fun x => S x ∧ c0 x = some i)) (IH : ∀ (i : Nat) v t, vs[i]? = some v → ts[i]? = some t → PruneOk B v t) :
    Calls Tryd.prog 62 #[pv a, .pointer o] w (ArrPrune w O S a vs ts c0) := by
  obtain ⟨self, nv0, h1, h2, h3, h4⟩ := id hd
  obtain ⟨An0, cn0, hnv⟩ := own_slice h2
  have hrow : ∀ i (hi : i < vs.length), ∃ g, An0 = some ⟨g, 0, none⟩ ∧ (Value.slice An0 vs.length cn0).ownBlock = some g := by
    intro i hi
    obtain ⟨g, cap, e, hg, hc⟩ := row_at h2 (by omega)
    rw [hnv] at e
    simp only [Value.slice.injEq] at e
    exact ⟨g, e.1, by rw [e.1]; rfl⟩
  subst hnv
  have la := (Array.getElem?_eq_some_iff.1 h1).1
  have c1 := cell_of_row _ a 1 _ _ _ h1
  rw [hlen] at c1
  have ca : ∀ o1, (w.alloc o1).cell? ⟨a, 1, none⟩ = some (.slice An0 ts.length cn0) := fun o1 => (World.cell?_of_block (a := ⟨a, 1, none⟩) (Below.heap_alloc _ _ _ la)).trans c1
  have HV0 : AInv w O S (.slice An0 vs.length cn0) a 0 vs ts (.slice (some ⟨w.heap.size, 0, none⟩) 0 0) (fun i => if i < w.heap.size then c0 i else none) c0 0 (w.alloc (.cells #[] 62)) := by
    have ho : Only (fun _ => False) w (w.alloc (.cells #[] 62)) := Only.alloc w _
    refine ⟨ho.mono (fun _ _ q => q.elim), fun i hi => if_pos hi, hd.step ho (fun _ _ _ q => q) (fun _ _ q => q), ⟨own_move h2 (fun k hk => ho.block k (own_lt h2 k hk) id), h4⟩, ⟨by simp, .inr ⟨w.heap.size, 0, _, rfl, Nat.le_refl _, heap_alloc_new w _, Nat.le_refl _, Nat.zero_le _, rfl, rfl⟩⟩, fun k hk => ?_, fun i v t hv ht => ?_⟩
    · simp only [Value.ownBlock, Option.some.injEq] at hk
      rw [if_neg (by omega)]
    · rw [if_neg (by omega)]
      exact (hk i v t hv ht).step ho (fun _ _ _ q => q) (fun i hi q => ⟨.inl q.1, by rw [if_pos hi]; exact q.2⟩)
  have HA := Lib.hid ha
  have HI := Lib.hid IH
  have HL := Lib.hid hlen
  have HR := Lib.hid hrow
  have HV1 := Lib.hid HV0
  have c2 := ca (.cells #[] 62)
  clear h1 h2 h3 h4 hrow la c1 ca HV0 ha IH hlen hd hk
  go_enter Tryd.func62, Tryd.ntmps62
  go_wp2
  clear c2
  go_loopw [5, 14] (fun nvv i wr => ∃ (n : Nat) (nv : Value) (col : Nat → Option Nat), n ≤ ts.length ∧ nvv = nv ∧ i = .int .i64 n ∧ Hid (AInv w O S (.slice An0 vs.length cn0) a n vs ts nv col c0 n wr)) (fun _ i _ => ts.length - (intOf i).toNat)
  case atStart => exact ⟨0, _, _, Nat.zero_le _, rfl, rfl, HV1⟩
  case round =>
    obtain ⟨n, nv, col, hn, rfl, rfl, HV⟩ := hrel
    obtain ⟨An, cn, hnv⟩ := own_slice HV.out.own
    subst hnv
    by_cases hlt : n < ts.length
    · have hltv : n < vs.length := by have := HL.out; omega
      obtain ⟨v, hv⟩ : ∃ x, vs[n]? = some x := ⟨_, List.getElem?_eq_getElem hltv⟩
      obtain ⟨t, ht⟩ : ∃ x, ts[n]? = some x := ⟨_, List.getElem?_eq_getElem hlt⟩
      have hln := HV.out.kids n v t hv ht
      rw [if_neg (by omega)] at hln
      obtain ⟨g0, hA0, hgo⟩ := HR.out n hltv
      have hcr : wr.cell? ⟨g0, n, none⟩ = some v := by
        obtain ⟨g, cap, e, hg, hc⟩ := row_at HV.out.row.1 (by omega)
        simp only [Value.slice.injEq] at e
        rw [hA0] at e
        have : g0 = g := by have := e.1; simp at this; exact this
        subst this
        rw [hc n hltv]
        rw [List.getElem?_eq_getElem hltv] at hv
        exact hv
      have hltI : (n : Int) < (ts.length : Int) := by omega
      have HS : Hid (∀ wr' col' w3 w4 nv1, AInv w O S (.slice An0 vs.length cn0) a n vs ts (.slice An n cn) col' c0 (n + 1) wr' → Below wr'.heap.size wr' w3 → w4.ownsRow w.heap.size 62 1 nv1 (n + 1) (vs.take n ++ [v]) → w3.grownBy w4 (Value.slice An n cn).ownBlock → (nv1.ownBlock = (Value.slice An n cn).ownBlock ∨ ∃ b, nv1.ownBlock = some b ∧ w3.heap.size ≤ b) →
          (∃ (n_1 : Nat) (nv_1 : Value) (col : Nat → Option Nat), n_1 ≤ ts.length ∧ nv1 = nv_1 ∧ Value.int IntKind.i64 ((n : Int) + 1) = Value.int IntKind.i64 (n_1 : Int) ∧ Hid (AInv w O S (.slice An0 vs.length cn0) a n_1 vs ts nv_1 col c0 n_1 w4)) ∧ ts.length - (intOf (Value.int IntKind.i64 ((n : Int) + 1))).toNat < ts.length - (intOf (Value.int IntKind.i64 (n : Int))).toNat) := Lib.hid fun wr' col' w3 w4 nv1 h hb ho hg hat => ary_round ts.length (h.snoc HA.out hv hb ho hg hat) hlt
      subst hA0
      by_cases h0 : t.f0 = 0
      · have hnil := hln.null h0
        have HV2 := Lib.hid (HV.out.same hv ht h0)
        have HW : Hid (wr.ownsRow w.heap.size 62 1 (.slice An n cn) n (vs.take n)) := Lib.hid HV.out.own
        have HWZ : Hid (w.heap.size ≤ wr.heap.size) := Lib.hid HV.out.only.size
        subst hnil
        clear hln hv ht h0 hgo
        go_wp2_with (first | (at_builtin; refine print_append_cells (w0 := wr) w.heap.size rfl (.tmp 23) (.tmp 25) 98 62 (.pointer none) 1 8 rfl Tryd.underlying98 infoP rfl (by decide) (by decide) (.slice An n cn) n (vs.take n) [.pointer none] rfl rfl rfl (by intro u hu; simp at hu; subst hu; rfl) HW.out (Below.refl _ _) HWZ.out (by omega) ?_; intro nv1 w4 hown1 hb1 hg1 hat1; have HF := Lib.hid (HS.out wr col _ w4 nv1 HV2.out ((Below.refl _ _)) hown1 hg1 hat1); clear hown1 hb1 hg1 hat1) | fail)
        exact HF.out
      · obtain ⟨b, hb⟩ := hln.some h0
        subst hb
        have gl := HV.out.gl HA.out
        have sb : ∀ i, ((S i ∨ New w i) ∧ col i = some n) → B ≤ i := fun i q => by
          have := HA.out.gl.1
          rcases q.1 with q1 | q1
          · exact HA.out.sb i q1
          · unfold New at q1; omega
        have HC := Lib.hid (fun o' => HI.out n _ t hv ht wr _ o' hln h0 gl sb)
        have HK := Lib.hid (fun (w2 : World) hl2 ho2 => HV.out.kid HA.out hv ht (w2 := w2) hl2 ho2)
        have HSZ : Hid (w.heap.size ≤ wr.heap.size) := Lib.hid HV.out.only.size
        clear hln hv ht h0 hgo gl sb
        go_wp2_with (first | (go_at_call 51; refine (HC.out _).mono ?_; rintro e w2 ⟨rfl, hl2, ho2⟩; obtain ⟨col', hv2⟩ := HK.out w2 hl2 ho2; have HV2 := Lib.hid hv2; have HW : Hid (w2.ownsRow w.heap.size 62 1 (.slice An n cn) n (vs.take n)) := Lib.hid hv2.own; have HWZ : Hid (w.heap.size ≤ w2.heap.size) := Lib.hid (Nat.le_trans HSZ.out ho2.size); clear hl2 ho2 hv2) | (at_builtin; refine print_append_cells (w0 := w2) w.heap.size rfl (.tmp 23) (.tmp 25) 98 62 (.pointer none) 1 8 rfl Tryd.underlying98 infoP rfl (by decide) (by decide) (.slice An n cn) n (vs.take n) [pv b] rfl rfl rfl (by intro u hu; simp at hu; subst hu; rfl) HW.out (Below.refl _ _) HWZ.out (by omega) ?_; intro nv1 w4 hown1 hb1 hg1 hat1; have HF := Lib.hid (HS.out w2 col' _ w4 nv1 HV2.out ((Below.refl _ _)) hown1 hg1 hat1); clear hown1 hb1 hg1 hat1) | fail)
        exact HF.out
    · have hge : ¬ (n : Int) < (ts.length : Int) := by omega
      obtain rfl : n = ts.length := by omega
      obtain ⟨self, nv1, q1, q2, q3, q4⟩ := HV.out.ary
      have y1 := cell_of_row _ a 1 _ _ _ q1
      have y2 := Go.frozen_of_row _ a 1 _ _ q1
      have HD := Lib.hid (HV.out.done HA.out HL.out.symm HL.out)
      clear q1 q2 q3 q4
      go_wp2
      go_ret
      exact HD.out
end Go.Proofs.YtdjogkfgegopfaaDoor
namespace Go.Proofs.YtdjogkfgegopfaaDoor
open Go.RowKit Go.Maps Go.Proofs.YtdjogkfgegopfaaDoor.MFnPaMergeAgain Go.Proofs.YtdjogkfgegopfaaDoor.Pure Go.Proofs.YtdjogkfgegopfaaDoorW.PrintWords Go.Proofs.YtdjogkfgegopfaaDoorW.PrintLast
set_option linter.unusedVariables false
set_option linter.unusedSimpArgs false

theorem space_no {x : Int} (h : 32 < x) (h1 : x < 133) : jsonpatch_zzSpace.f x = some false := by
  unfold jsonpatch_zzSpace.f
  rw [if_neg (by omega), if_neg (by omega), if_neg (by omega), if_neg (by omega), if_neg (by omega), if_neg (by omega), if_neg (by omega), if_neg (by omega)]

/-- How a leaf begins. -/
theorem leaf_head {k : Int} {t : ByteArray} {bs : List UInt8} (h : leafB k t = some bs) : ∃ c l, bs = c :: l ∧ (c.toNat : Int) ≠ 123 ∧ jsonpatch_zzSpace.f (c.toNat : Int) = some false := by
  rcases leafB_kind h with rfl | rfl | rfl | rfl
  · have e : bs = falseB := by simp [leafB] at h; exact h.2.symm
    exact ⟨102, _, e, by decide, space_no (by decide) (by decide)⟩
  · have e : bs = trueB := by simp [leafB] at h; exact h.2.symm
    exact ⟨116, _, e, by decide, space_no (by decide) (by decide)⟩
  · have e : numHead bs = true := by simp [leafB] at h; exact h.2 ▸ h.1
    cases bs with
    | nil => simp [numHead] at e
    | cons c l =>
      refine ⟨c, l, rfl, ?_⟩
      simp only [numHead, Bool.or_eq_true, beq_iff_eq, Bool.and_eq_true, decide_eq_true_eq] at e
      rcases e with e | ⟨e1, e2⟩
      · subst e
        exact ⟨by decide, space_no (by decide) (by decide)⟩
      · have h1 := UInt8.le_iff_toNat_le.1 e1
        have h2 := UInt8.le_iff_toNat_le.1 e2
        have e3 : (48 : UInt8).toNat = 48 := by decide
        have e4 : (57 : UInt8).toNat = 57 := by decide
        exact ⟨by omega, space_no (by omega) (by omega)⟩
  · exact ⟨34, _, leafB4 h, by decide, space_no (by decide) (by decide)⟩

/-- Blocks of a type that no node and no raw text has. -/
def Odd (w : World) (O : Nat → Prop) : Prop := ∀ i, O i → (∃ cells t fr, w.heap[i]? = some (.cells cells t fr) ∧ t ≠ 80 ∧ t ≠ 5 ∧ t ≠ 84) ∨ ∃ es c, w.heap[i]? = some (.map es c)
theorem AryAt.tight {w : World} {O : Nat → Prop} {a : Nat} {vs : List Value} (h : AryAt w O a vs) : ∃ O', AryAt w O' a vs ∧ (∀ i, O' i → O i) ∧ Odd w O' := by
  obtain ⟨self, nv, h1, h2, h3, h4⟩ := h
  refine ⟨fun i => i = a ∨ nv.ownBlock = some i, ⟨self, nv, h1, h2, .inl rfl, fun k hk => .inr hk⟩, ?_, ?_⟩
  · rintro i (rfl | q)
    · exact h3
    · exact h4 i q
  · rintro i (rfl | q)
    · exact .inl ⟨_, _, _, h1, by decide, by decide, by decide⟩
    · rcases h2.2 with ⟨rfl, _⟩ | ⟨g, cap, cur, rfl, _, hg, _⟩
      · simp [Value.ownBlock] at q
      · simp only [Value.ownBlock, Option.some.injEq] at q
        subst q
        exact .inl ⟨_, _, _, hg, by decide, by decide, by decide⟩
theorem DocAt.odd {w : World} {O : Nat → Prop} {d m : Nat} {ks : List ByteArray} {f : ByteArray → Value} (h : DocAt w O d m ks f) : ∃ O', DocAt w O' d m ks f ∧ (∀ i, O' i → O i) ∧ Odd w O' := by
  obtain ⟨O', h1, h2, h3⟩ := h.tight
  refine ⟨O', h1, h2, fun i hi => ?_⟩
  rcases h3 i hi with ⟨cells, t, fr, e, rfl | rfl⟩ | q
  · exact .inl ⟨cells, _, fr, e, by decide, by decide, by decide⟩
  · exact .inl ⟨cells, _, fr, e, by decide, by decide, by decide⟩
  · exact .inr q

/-- What is written of an object is neither its node nor its raw text. -/
theorem keepN {α : Type} {w w1 : World} {S O : Nat → Prop} {col c1 : Nat → Option α} {b r : Nat} {d a : Value} {k : Int} {bs : List UInt8} (hn : NodeAt w (fun i => S i ∧ col i = none) b r d a k) (hr : RawAt w (fun i => S i ∧ col i = none) r bs) (hO : Odd w O) (ho : Only (DocW O S col) w w1) (hc : ∀ i, i < w.heap.size → c1 i = col i) :
    NodeAt w1 (fun i => (S i ∨ New w i) ∧ c1 i = none) b r d a k ∧ RawAt w1 (fun i => (S i ∨ New w i) ∧ c1 i = none) r bs := by
  have hS : ∀ i, i < w.heap.size → (S i ∧ col i = none) → ((S i ∨ New w i) ∧ c1 i = none) := fun i hi q => ⟨.inl q.1, (hc i hi).trans q.2⟩
  have hne : ∀ i, (S i ∧ col i = none) → ∀ cells t fr, w.heap[i]? = some (.cells cells t fr) → (t = 80 ∨ t = 5 ∨ t = 84) → ¬ DocW O S col i := by
    rintro i hi cells t fr e ht (q | q)
    · rcases hO i q with ⟨cs, t', f', e', n1, n2, n3⟩ | ⟨es, c, e'⟩
      · rw [e] at e'
        simp only [Option.some.injEq, Obj.cells.injEq] at e'
        obtain ⟨-, rfl, -⟩ := e'
        rcases ht with h | h | h
        · exact n1 h
        · exact n2 h
        · exact n3 h
      · rw [e] at e'; cases e'
    · exact q.2 hi.2
  constructor
  · exact ⟨hS b hn.lt hn.1, (ho.block b hn.lt (hne b hn.1 _ _ _ hn.2 (.inl rfl))).trans hn.2⟩
  · obtain ⟨c, cap, h1, h2, h3, h4, h5, ⟨cells, fr, h6⟩, h7⟩ := hr
    have lr : r < w.heap.size := (Array.getElem?_eq_some_iff.1 h3).1
    have lc : c < w.heap.size := (Array.getElem?_eq_some_iff.1 h6).1
    have er := ho.block r lr (hne r h1 _ _ _ h3 (.inr (.inr rfl)))
    have ec := ho.block c lc (hne c h2 _ _ _ h6 (.inr (.inl rfl)))
    exact ⟨c, cap, hS r lr h1, hS c lc h2, er.trans h3, h4, h5, ⟨cells, fr, ec.trans h6⟩, fun j b hj => (World.cell?_of_block (a := ⟨c, j, none⟩) ec).trans (h7 j b hj)⟩

theorem GLp.below {B : Nat} {w w1 : World} (h : GLp B w) (hb : Below w.heap.size w w1) : GLp B w1 := h.keep (Only.of_below hb : Only (fun _ => False) w w1) (fun _ q => q.elim)

set_option maxRecDepth 100000 in
theorem pruneNulls_leaf (B : Nat) (w : World) (O : Nat → Prop) (b r : Nat) (o : Option Addr) (c : UInt8) (bs : List UInt8) (hn : NodeAt w O b r (.pointer none) (.pointer none) 0) (hr : RawAt w O r (c :: bs)) (hc : (c.toNat : Int) ≠ 123) (hs : jsonpatch_zzSpace.f (c.toNat : Int) = some false) (hG : GLp B w) :
    Calls Tryd.prog 51 #[pv b, .pointer o] w (fun e w' => e = .returned (.tuple #[]) ∧ Below w.heap.size w w') := by
  have HC := Lib.hid (intoDoc_no B w O b r (.pointer none) (.pointer none) (.pointer o) 0 (by decide) c bs hn hr hc hs hG)
  have HD : Hid (∀ w1, Below w.heap.size w w1 → Calls Tryd.prog 61 #[pv b] w1 (ErrPost w1)) := Lib.hid fun w1 h1 =>
    intoAry_no B w1 O b r (.pointer none) (.pointer none) 0 (by decide) (hn.step (O' := O) (W := fun _ => False) (Only.of_below h1) (fun _ _ _ q => q) (fun _ _ q => q)) (hG.below h1)
  clear hn hr hc hs hG
  go_enter Tryd.func51, Tryd.ntmps51
  go_wp2_with (first | (go_at_call 50; refine HC.out.mono ?_; rintro e w1 ⟨x, rfl, hb1⟩; have HB := Lib.hid hb1; clear hb1) | (go_at_call 61; refine (HD.out _ HB.out).mono ?_; rintro e w2 ⟨y, rfl, hb2⟩; have HE := Lib.hid (HB.out.trans (hb2.mono HB.out.size)); clear hb2) | fail)
  (try simp only [Exit.inBlock, Exit.then])
  refine bodyPost_end (results_none rfl _ _ _) rfl ?_
  exact ⟨rfl, HE.out⟩

set_option maxRecDepth 100000 in
theorem pruneNulls_arr (B : Nat) (w : World) (O : Nat → Prop) (b r a : Nat) (o : Option Addr) (P : World → World → Prop) (bs : List UInt8) (hn : NodeAt w O b r (.pointer none) (pv a) 2) (hr : RawAt w O r (91 :: bs)) (hG : GLp B w)
    (HA : ∀ w1, Below w.heap.size w w1 → Calls Tryd.prog 62 #[pv a, .pointer o] w1 (fun e w' => e = .returned (pv a) ∧ P w1 w')) :
    Calls Tryd.prog 51 #[pv b, .pointer o] w (fun e w' => e = .returned (.tuple #[]) ∧ ∃ w1, Below w.heap.size w w1 ∧ P w1 w') := by
  have HC := Lib.hid (intoDoc_no B w O b r (.pointer none) (pv a) (.pointer o) 2 (by decide) 91 bs hn hr (by decide) (space_no (by decide) (by decide)) hG)
  have HD : Hid (∀ w1, Below w.heap.size w w1 → Calls Tryd.prog 61 #[pv b] w1 (fun e w' => e = .returned (.tuple #[pv a, .nilIface]) ∧ w1 = w')) := Lib.hid fun w1 h1 =>
    intoAry_yes w1 O b r a (.pointer none) (hn.step (O' := O) (W := fun _ => False) (Only.of_below h1) (fun _ _ _ q => q) (fun _ _ q => q))
  have HX := Lib.hid HA
  clear hn hr hG HA
  go_enter Tryd.func51, Tryd.ntmps51
  go_wp2_with (first | (go_at_call 50; refine HC.out.mono ?_; rintro e w1 ⟨x, rfl, hb1⟩; have HB := Lib.hid hb1; clear hb1) | (go_at_call 61; refine (HD.out _ HB.out).mono ?_; rintro e w2 ⟨rfl, rfl⟩) | (go_at_call 62; refine (HX.out _ HB.out).mono ?_; rintro e w2 ⟨rfl, hp⟩; have HP := Lib.hid hp; clear hp) | fail)
  (try simp only [Exit.inBlock, Exit.then])
  refine bodyPost_end (results_none rfl _ _ _) rfl ?_
  exact ⟨rfl, _, HB.out, HP.out⟩

set_option maxRecDepth 100000 in
theorem pruneNulls_obj (w : World) (O : Nat → Prop) (b r d : Nat) (o : Option Addr) (P : World → Prop) (hn : NodeAt w O b r (pv d) (.pointer none) 1)
    (HA : Calls Tryd.prog 60 #[pv d, .pointer o] w (fun e w' => e = .returned (pv d) ∧ P w')) :
    Calls Tryd.prog 51 #[pv b, .pointer o] w (fun e w' => e = .returned (.tuple #[]) ∧ P w') := by
  have HC := Lib.hid (intoDoc_yes w O b r d (.pointer none) (.pointer o) hn)
  have HX := Lib.hid HA
  clear hn HA
  go_enter Tryd.func51, Tryd.ntmps51
  go_wp2_with (first | (go_at_call 50; refine HC.out.mono ?_; rintro e w1 ⟨rfl, rfl⟩) | (go_at_call 60; refine HX.out.mono ?_; rintro e w2 ⟨rfl, hp⟩; have HP := Lib.hid hp; clear hp) | fail)
  (try simp only [Exit.inBlock, Exit.then])
  refine bodyPost_end (results_none rfl _ _ _) rfl ?_
  exact ⟨rfl, HP.out⟩

theorem prune_any (B : Nat) : ∀ (m : Nat) (T : S25) (v : Value), SizeOf.sizeOf T ≤ m → lim 1099511627776 T → PruneOk B v T
  | 0, T, v, hm, _ => by cases T; simp at hm
  | m + 1, T, v, hm, hl => by
    intro W S o h h0 hG hS
    cases h with
    | nul => simp at h0
    | raw0 b r _ hz h1 h2 => cases hz
    | leaf b r _ k t bs hb h1 h2 =>
      obtain ⟨c, l, rfl, q1, q2⟩ := leaf_head hb
      refine (pruneNulls_leaf B W S b r o c l h1 h2 q1 q2 hG).mono ?_
      rintro e w' ⟨rfl, hb2⟩
      have hk := leafB_kind hb
      have hp : prune ⟨k, t, [], []⟩ = ⟨k, t, [], []⟩ := prune_leaf (by rcases hk with h | h | h | h <;> simp [h]) (by rcases hk with h | h | h | h <;> simp [h])
      refine ⟨rfl, ?_, Only.of_below hb2⟩
      rw [hp]
      exact (LN.leaf b r S k t _ hb h1 h2).step (O := fun _ => False) (Only.of_below hb2) (fun _ _ _ q => q) (fun _ _ q => .inl q)
    | arr b r a _ col vs ts h1 h2 h3 h4 h5 =>
      simp only [lim] at hl
      obtain ⟨O', h3', hsub, hodd⟩ := h3.bound.tight
      refine (pruneNulls_arr B W _ b r a o (fun w1 w' => Below W.heap.size W w1 → Only (DocW O' S col) w1 w' ∧ ∃ c1 : Nat → Option Nat, (∀ i, i < w1.heap.size → c1 i = (if i < W.heap.size then col i else none)) ∧ AryAt w' (fun i => O' i ∨ (New w1 i ∧ c1 i = none)) a vs ∧ ∀ i v t, vs[i]? = some v → ts[i]? = some t → LN false w' v (prune t) (fun x => ((S x ∧ x < W.heap.size) ∨ New w1 x) ∧ c1 x = some i)) [93] h1 h2 hG (fun w1 hb1 => ?_)).mono ?_
      · have hs1 := hb1.size
        refine (pruneAry_any B w1 O' (fun i => S i ∧ i < W.heap.size) a vs ts (fun i => if i < W.heap.size then col i else none) o ⟨hG.below hb1, fun i hi => ?_, fun i hi => hS i hi.1⟩ (h3'.step (W := fun _ => False) (Only.of_below hb1) (fun _ _ _ q => q) (fun _ _ q => q)) h4 hl.2.1 (fun i v t hv ht => ?_) (fun i v t hv ht => ?_)).mono ?_
        · have := hsub i hi
          exact ⟨⟨this.1.1, this.2⟩, by rw [if_pos this.2]; exact this.1.2, by omega⟩
        · exact ((h5 i v t hv ht).step (O := fun _ => False) (Only.of_below hb1) (fun _ _ _ q => q) (fun j hj q => ⟨⟨q.1, hj⟩, by rw [if_pos hj]; exact q.2⟩))
        · have hs := List.sizeOf_lt_of_mem (List.mem_of_getElem? ht)
          exact prune_any B m t v (by simp at hm; omega) (limL_get hl.2.2 (List.mem_of_getElem? ht))
        · rintro e w' ⟨rfl, q1, c1, q2, q3, q4⟩
          refine ⟨rfl, fun _ => ⟨q1.mono (fun i _ q => ?_), c1, q2, q3, q4⟩⟩
          rcases q with q | ⟨⟨q, hlt⟩, q'⟩
          · exact .inl q
          · simp only [if_pos hlt] at q'
            exact .inr ⟨q, q'⟩
      · rintro e w' ⟨rfl, w1, hb1, hp⟩
        obtain ⟨q1, c1, q2, q3, q4⟩ := hp hb1
        have s1 := hb1.size
        have hall : Only (DocW O' S col) W w' := (Only.of_below hb1 : Only (DocW O' S col) W w1).trans q1 (fun _ _ q => q) (fun _ _ q => q)
        have hc : ∀ i, i < W.heap.size → c1 i = col i := fun i hi => by rw [q2 i (by omega), if_pos hi]
        obtain ⟨n1, n2⟩ := keepN h1 h2 hodd hall hc
        refine ⟨rfl, ?_, hall.mono (fun i _ q => ?_)⟩
        · rw [prune_arrE]
          refine .arr b r a _ c1 vs (ts.map prune) n1 n2 (q3.mono (fun i q => ?_)) (by rw [List.length_map]; exact h4) (fun i v t hv ht => ?_)
          · rcases q with q | ⟨q, q'⟩
            · have := hsub i q
              exact ⟨.inl this.1.1, by rw [hc i this.2]; exact this.1.2⟩
            · exact ⟨.inr (Nat.le_trans s1 q), q'⟩
          · rw [List.getElem?_map] at ht
            obtain ⟨t0, ht0, rfl⟩ := Option.map_eq_some_iff.1 ht
            refine (q4 i v t0 hv ht0).mono (fun j q => ⟨?_, q.2⟩)
            rcases q.1 with q | q
            · exact .inl q.1
            · exact .inr (Nat.le_trans s1 q)
        · rcases q with q | q
          · exact (hsub i q).1.1
          · exact q.1
    | obj b r d m' _ col ks f tr h1 h2 h3 h5 =>
      simp only [lim] at hl
      obtain ⟨O', h3', hsub, hodd⟩ := h3.bound.odd
      obtain ⟨_, _, _, _, _, _, _, _, _, _, hks⟩ := id h3
      refine (pruneNulls_obj W _ b r d o (fun w' => Only (DocW O' S col) W w' ∧ ∃ c1 : Nat → Option ByteArray, (∀ i, i < W.heap.size → c1 i = col i) ∧ DocAt w' O' d m' (ks.filter (fun k => decide ((tr k).f0 ≠ 0))) f ∧ ∀ k, k ∈ ks → (tr k).f0 ≠ 0 → LN false w' (f k) (prune (tr k)) (fun i => (S i ∨ New W i) ∧ c1 i = some k)) h1 ?_).mono ?_
      · refine (pruneDoc_any B W O' S d m' ks f tr col o ⟨hG, fun i hi => ?_, hS⟩ h3' hl.1 h5 hks (fun k hk => ?_)).mono ?_
        · have := hsub i hi
          exact ⟨this.1.1, this.1.2, this.2⟩
        · have hmem : tr k ∈ ks.map tr := List.mem_map.2 ⟨k, hk, rfl⟩
          have hs := List.sizeOf_lt_of_mem hmem
          exact prune_any B m (tr k) (f k) (by simp at hm; omega) (limL_get hl.2.2 hmem)
        · rintro e w' ⟨rfl, q⟩
          exact ⟨rfl, q⟩
      · rintro e w' ⟨rfl, q1, c1, q2, q3, q4⟩
        obtain ⟨n1, n2⟩ := keepN h1 h2 hodd q1 q2
        refine ⟨rfl, ?_, q1.mono (fun i _ q => ?_)⟩
        · rw [prune_objE]
          have hfm : (ks.filter (fun k => decide ((tr k).f0 ≠ 0))).map (fun k => prune (tr k)) = (ks.filter (fun k => decide ((tr k).f0 ≠ 0))).map (fun k => prune (tr k)) := rfl
          refine .obj b r d m' _ c1 _ f (fun k => prune (tr k)) n1 n2 (q3.mono (fun i q => ?_)) (fun k hk => ?_)
          · have := hsub i q
            exact ⟨.inl this.1.1, by rw [q2 i this.2]; exact this.1.2⟩
          · obtain ⟨k1, k2⟩ := List.mem_filter.1 hk
            exact q4 k k1 (by simpa using k2)
        · rcases q with q | q
          · exact (hsub i q).1.1
          · exact q.1
end Go.Proofs.YtdjogkfgegopfaaDoor
