/- The walk of the law: a merge patch merged a second time changes nothing. Condition: arguments of at most 2^20; the errors that the package hands out are laid. -/
import Derived.Test.YtdjogkfgegopfaaDoorHm21
import Derived.Test.YtdjogkfgegopfaaDoorHd
import Derived.Test.YtdjogkfgegopfaaDoorMFnPaMergeAgain8
import Derived.Test.YtdjogkfgegopfaaDoorHa
import Derived.Test.YtdjogkfgegopfaaDoorPa
import Derived.Test.YtdjogkfgegopfaaDoorRows
import Derived.ProofKit
import Derived.SliceStrings
import Derived.DataElems
namespace Go.Proofs.YtdjogkfgegopfaaDoor
open Go.RowKit Go.Maps Go.Proofs.YtdjogkfgegopfaaDoor.MFnPaMergeAgain Go.Proofs.YtdjogkfgegopfaaDoor.Pure Go.Proofs.YtdjogkfgegopfaaDoorW.PrintWords Go.Proofs.YtdjogkfgegopfaaDoorW.PrintLast
set_option linter.unusedVariables false
set_option linter.unusedSimpArgs false

theorem fits_call {W : World} {S : Nat → Prop} {T : S25} {cs : List Value} {k : Nat} {r : Bool} (hT : TR W S T cs) (B : Nat) (hB : B ≤ 4611686018427387904) (hl : lim B T) (h : laws_zzFits2.f k T.f0 T.f1 T.f2 T.f3 = some r) :
    Calls Tryd.prog 5 #[.agg cs.toArray] W fun e w' => e = .returned (.bool r) ∧ Below W.heap.size W w' := by
  obtain ⟨A2, c2, A3, c3, rfl, l2, h2, l3, h3⟩ := k25_open (hT.K B hB hl)
  exact laws_zzFits2.calls k _ _ A2 c2 _ A3 c3 _ r W h2 l2 h3 l3 h
theorem merges_call {W : World} {S S' : Nat → Prop} {T T' : S25} {cs cs' : List Value} {k : Nat} {r : Bool} (hT : TR W S T cs) (hT' : TR W S' T' cs') (B : Nat) (hB : B ≤ 4611686018427387904) (hl : lim B T) (hl' : lim B T') (h : laws_paMerges.f k T.f0 T.f1 T.f2 T.f3 T'.f0 T'.f1 T'.f2 T'.f3 = some r) :
    Calls Tryd.prog 6 #[.agg cs.toArray, .agg cs'.toArray] W fun e w' => e = .returned (.bool r) ∧ Below W.heap.size W w' := by
  obtain ⟨A2, c2, A3, c3, rfl, l2, h2, l3, h3⟩ := k25_open (hT.K B hB hl)
  obtain ⟨B2, d2, B3, d3, rfl, m2, g2, m3, g3⟩ := k25_open (hT'.K B hB hl')
  exact laws_paMerges.calls k _ _ A2 c2 _ A3 c3 _ _ _ B2 d2 _ B3 d3 _ r W h2 l2 h3 l3 g2 m2 g3 m3 h
theorem alike_call {W : World} {S S' : Nat → Prop} {T T' : S25} {cs cs' : List Value} {k : Nat} {r : Bool} (hT : TR W S T cs) (hT' : TR W S' T' cs') (B : Nat) (hB : B ≤ 4611686018427387904) (hl : lim B T) (hl' : lim B T') (h : spec_Alike.f k T.f0 T.f1 T.f2 T.f3 T'.f0 T'.f1 T'.f2 T'.f3 = some r) :
    Calls Tryd.prog 8 #[.agg cs.toArray, .agg cs'.toArray] W fun e w' => e = .returned (.bool r) ∧ Below W.heap.size W w' := by
  obtain ⟨A2, c2, A3, c3, rfl, l2, h2, l3, h3⟩ := k25_open (hT.K B hB hl)
  obtain ⟨B2, d2, B3, d3, rfl, m2, g2, m3, g3⟩ := k25_open (hT'.K B hB hl')
  exact spec_Alike.calls k _ _ A2 c2 _ A3 c3 _ _ _ B2 d2 _ B3 d3 _ r W h2 l2 h3 l3 g2 m2 g3 m3 h

/-- The once merged and the twice merged are alike. -/
theorem twice_alike {d p x y : S25} {B : Nat} (hB : B ≤ 4611686018427387904) (hd : tidy B d) (hp : tidy B p) (ha : arrFree p = true) (h1 : MergeTo d p x) (h2 : MergeTo x p y) (lx : lim B x) (ly : lim B y) : AlikeEv y x :=
  like_alike hB (again h1 y (tidy_well d hd) (tidy_well p hp) ha (tidy_blank _ p (Nat.le_refl _) hp) h2) ly lx
theorem merge_six {d p x : S25} (h : MergeTo d p x) (hd : d.f0 = 6) (hp : p.f0 = 6) : x.f0 = 6 := by
  cases h with
  | cur q => exact absurd hd q
  | val _ q => exact absurd hp q
  | obj g _ _ h6 => exact h6

abbrev Fin (w : World) : Ending → World → Prop := fun e w' => e = .returned (.bool true) ∧ Below w.heap.size w w'

set_option maxRecDepth 1000000 in
set_option maxHeartbeats 4000000 in
theorem law_any (B : Nat) (d p : S25) (cd cp : List Value) (w : World) (hbd : big 1048576 d) (hbp : big 1048576 p) (hd : TR w (All w) d cd) (hp : TR w (All w) p cp) (hG : GLp B w) :
    Calls Tryd.prog 3 #[.agg cd.toArray, .agg cp.toArray] w (Fin w) := by
  obtain ⟨r1, ⟨K1, hK1⟩, -⟩ := fits2_e 1048576 (by decide) d hbd
  obtain ⟨r2, ⟨K2, hK2⟩, -⟩ := fits2_e 1048576 (by decide) p hbp
  obtain ⟨r3, ⟨K3, hK3⟩, hm3⟩ := merges_e 1048576 (by decide) d p hbd hbp
  have ld := big_lim d hbd
  have lp := big_lim p hbp
  obtain ⟨A2, A3, a2, a3, rfl, -, -⟩ := id hd.cells
  obtain ⟨B2, B3, b2, b3, rfl, -, -⟩ := id hp.cells
  have h0 := fun (W : World) (cs : List Value) (q : TR W (All W) d cs) => fits_call q 1048576 (by decide) ld (hK1 K1 (Nat.le_refl _))
  have h1 := fun (W : World) (cs : List Value) (q : TR W (All W) p cs) => fits_call q 1048576 (by decide) lp (hK2 K2 (Nat.le_refl _))
  have h2 := fun (W : World) (cs cs' : List Value) (q : TR W (All W) d cs) (q' : TR W (All W) p cs') => merges_call q q' 1048576 (by decide) ld lp (hK3 K3 (Nat.le_refl _))
  clear hK1 hK2 hK3
  obtain ⟨n2, hn2⟩ : ∃ n, d.f2.length = n := ⟨_, rfl⟩
  obtain ⟨n3, hn3⟩ : ∃ n, d.f3.length = n := ⟨_, rfl⟩
  obtain ⟨m2, hm2⟩ : ∃ n, p.f2.length = n := ⟨_, rfl⟩
  obtain ⟨m3, hm3'⟩ : ∃ n, p.f3.length = n := ⟨_, rfl⟩
  obtain ⟨k, hk⟩ : ∃ x, d.f0 = x := ⟨_, rfl⟩
  obtain ⟨t, ht⟩ : ∃ x, d.f1 = x := ⟨_, rfl⟩
  obtain ⟨k', hk'⟩ : ∃ x, p.f0 = x := ⟨_, rfl⟩
  obtain ⟨t', ht'⟩ : ∃ x, p.f1 = x := ⟨_, rfl⟩
  rw [hk, ht, hn2, hn3] at hd ⊢
  rw [hk', ht', hm2, hm3'] at hp ⊢
  obtain ⟨w1, hw1⟩ : ∃ W : World, (w.alloc (.cells #[.int .i64 k, .string t, .slice A2 n2 a2, .slice A3 n3 a3] 25)).alloc (.cells #[.int .i64 k', .string t', .slice B2 m2 b2, .slice B3 m3 b3] 25) = W := ⟨_, rfl⟩
  have hb : Below w.heap.size w w1 := by
    rw [← hw1]
    exact ((Below.refl _ _).alloc (Nat.le_refl _) _).alloc (by simp) _
  have hz : w1.heap.size = w.heap.size + 2 := by rw [← hw1]; simp
  have hr0 : w1.heap[w.heap.size]? = some (.cells #[.int .i64 k, .string t, .slice A2 n2 a2, .slice A3 n3 a3] 25 (0, 0)) := by
    rw [← hw1, Below.heap_alloc _ _ _ (by simp)]; exact heap_alloc_new w _
  have hr1 : w1.heap[w.heap.size + 1]? = some (.cells #[.int .i64 k', .string t', .slice B2 m2 b2, .slice B3 m3 b3] 25 (0, 0)) := by
    rw [← hw1]; simpa using heap_alloc_new (w.alloc (.cells #[.int .i64 k, .string t, .slice A2 n2 a2, .slice A3 n3 a3] 25)) _
  have HC : Hid (∀ W, Below w1.heap.size w1 W → W.cell? ⟨w.heap.size, 0, none⟩ = some (.int .i64 k) ∧ W.cell? ⟨w.heap.size, 1, none⟩ = some (.string t) ∧ W.cell? ⟨w.heap.size, 2, none⟩ = some (.slice A2 n2 a2) ∧ W.cell? ⟨w.heap.size, 3, none⟩ = some (.slice A3 n3 a3) ∧ W.cell? ⟨w.heap.size + 1, 0, none⟩ = some (.int .i64 k') ∧ W.cell? ⟨w.heap.size + 1, 1, none⟩ = some (.string t') ∧ W.cell? ⟨w.heap.size + 1, 2, none⟩ = some (.slice B2 m2 b2) ∧ W.cell? ⟨w.heap.size + 1, 3, none⟩ = some (.slice B3 m3 b3)) := Lib.hid fun W hW => by
    have e1 := (hW.block _ (by omega)).trans hr0
    have e2 := (hW.block _ (by omega)).trans hr1
    exact ⟨cell_of_row _ _ 0 _ _ _ e1, cell_of_row _ _ 1 _ _ _ e1, cell_of_row _ _ 2 _ _ _ e1, cell_of_row _ _ 3 _ _ _ e1, cell_of_row _ _ 0 _ _ _ e2, cell_of_row _ _ 1 _ _ _ e2, cell_of_row _ _ 2 _ _ _ e2, cell_of_row _ _ 3 _ _ _ e2⟩
  have HD : Hid (∀ W, Below w1.heap.size w1 W → TR W (All W) d [.int .i64 k, .string t, .slice A2 n2 a2, .slice A3 n3 a3] ∧ TR W (All W) p [.int .i64 k', .string t', .slice B2 m2 b2, .slice B3 m3 b3]) := Lib.hid fun W hW => ⟨hd.below' (hb.trans (hW.mono hb.size)), hp.below' (hb.trans (hW.mono hb.size))⟩
  have HF1 : Hid (∀ W, Below w1.heap.size w1 W → Calls Tryd.prog 5 #[(.agg #[.int .i64 k, .string t, .slice A2 n2 a2, .slice A3 n3 a3])] W (fun e w' => e = .returned (.bool r1) ∧ Below W.heap.size W w')) := Lib.hid fun W hW => h0 W _ (HD.out W hW).1
  have HF2 : Hid (∀ W, Below w1.heap.size w1 W → Calls Tryd.prog 5 #[(.agg #[.int .i64 k', .string t', .slice B2 m2 b2, .slice B3 m3 b3])] W (fun e w' => e = .returned (.bool r2) ∧ Below W.heap.size W w')) := Lib.hid fun W hW => h1 W _ (HD.out W hW).2
  have HM : Hid (∀ W, Below w1.heap.size w1 W → Calls Tryd.prog 6 #[(.agg #[.int .i64 k, .string t, .slice A2 n2 a2, .slice A3 n3 a3]), (.agg #[.int .i64 k', .string t', .slice B2 m2 b2, .slice B3 m3 b3])] W (fun e w' => e = .returned (.bool r3) ∧ Below W.heap.size W w')) := Lib.hid fun W hW => h2 W _ _ (HD.out W hW).1 (HD.out W hW).2
  have HG : Hid (∀ W, Below w1.heap.size w1 W → GLp B W) := Lib.hid fun W hW => (hG.below hb).below hW
  have H3 := Lib.hid hm3
  have HB := Lib.hid (And.intro hb hz)
  have HK := Lib.hid (And.intro hk hk')
  have p0 := HC.out w1 (Below.refl _ _)
  clear hd hp hG hn2 hn3 hm2 hm3' hk ht hk' ht' hb hz hr0 hr1 h0 h1 h2 ld lp hbd hbp hm3
  cases r1 with
  | false =>
    go_enter Tryd.func3, Tryd.ntmps3
    go_wp2_with (first
      | (go_at_call 5; with_reducible refine (HF1.out w1 (Below.refl _ _)).mono ?_; rintro e w2 ⟨rfl, hb2⟩; have q2 := HC.out w2 hb2; have HB2 := Lib.hid hb2; clear hb2)
      | fail)
    go_ret
    exact ⟨rfl, HB.out.1.trans (HB2.out.mono HB.out.1.size)⟩
  | true =>
  cases r2 with
  | false =>
    go_enter Tryd.func3, Tryd.ntmps3
    go_wp2_with (first
      | (go_at_call 5; with_reducible refine (HF1.out w1 (Below.refl _ _)).mono ?_; rintro e w2 ⟨rfl, hb2⟩; have q2 := HC.out w2 hb2; have HB2 := Lib.hid hb2; clear hb2)
      | (go_at_call 5; refine (HF2.out w2 HB2.out).mono ?_; rintro e w3 ⟨rfl, hb3⟩; have hb3' := HB2.out.trans (hb3.mono HB2.out.size); have q3 := HC.out w3 hb3'; have HB3 := Lib.hid hb3'; clear hb3 hb3')
      | fail)
    go_ret
    exact ⟨rfl, HB.out.1.trans (HB3.out.mono HB.out.1.size)⟩
  | true =>
  cases r3 with
  | false =>
    go_enter Tryd.func3, Tryd.ntmps3
    go_wp2_with (first
      | (go_at_call 5; with_reducible refine (HF1.out w1 (Below.refl _ _)).mono ?_; rintro e w2 ⟨rfl, hb2⟩; have q2 := HC.out w2 hb2; have HB2 := Lib.hid hb2; clear hb2)
      | (go_at_call 5; refine (HF2.out w2 HB2.out).mono ?_; rintro e w3 ⟨rfl, hb3⟩; have hb3' := HB2.out.trans (hb3.mono HB2.out.size); have q3 := HC.out w3 hb3'; have HB3 := Lib.hid hb3'; clear hb3 hb3')
      | (go_at_call 6; refine (HM.out w3 HB3.out).mono ?_; rintro e w4 ⟨rfl, hb4⟩; have hb4' := HB3.out.trans (hb4.mono HB3.out.size); have q4 := HC.out w4 hb4'; have HB4 := Lib.hid hb4'; clear hb4 hb4')
      | fail)
    go_ret
    exact ⟨rfl, HB.out.1.trans (HB4.out.mono HB.out.1.size)⟩
  | true =>
  obtain ⟨hd6, hp6, htd, htp, hfree⟩ := H3.out rfl
  have HP : Hid (∀ W, Below w1.heap.size w1 W → Calls Tryd.prog 7 #[(.agg #[.int .i64 k, .string t, .slice A2 n2 a2, .slice A3 n3 a3]), (.agg #[.int .i64 k', .string t', .slice B2 m2 b2, .slice B3 m3 b3])] W (DMPost W d p (1048576 + 1048576))) := Lib.hid fun W hW => paMerge_any B 1048576 1048576 (by decide) d p _ _ W htd htp (HD.out W hW).1 (HD.out W hW).2 (HG.out W hW)
  have HT := Lib.hid (And.intro htd (And.intro htp (And.intro hfree (And.intro hd6 hp6))))
  clear hd6 hp6 htd htp hfree H3
  go_enter Tryd.func3, Tryd.ntmps3
  go_wp2_with (first
    | (go_at_call 5; with_reducible refine (HF1.out w1 (Below.refl _ _)).mono ?_; rintro e w2 ⟨rfl, hb2⟩; have q2 := HC.out w2 hb2; have HB2 := Lib.hid hb2; clear hb2)
    | (go_at_call 5; refine (HF2.out w2 HB2.out).mono ?_; rintro e w3 ⟨rfl, hb3⟩; have hb3' := HB2.out.trans (hb3.mono HB2.out.size); have q3 := HC.out w3 hb3'; have HB3 := Lib.hid hb3'; clear hb3 hb3')
    | (go_at_call 6; refine (HM.out w3 HB3.out).mono ?_; rintro e w4 ⟨rfl, hb4⟩; have hb4' := HB3.out.trans (hb4.mono HB3.out.size); have q4 := HC.out w4 hb4'; have HB4 := Lib.hid hb4'; clear hb4 hb4')
    | (go_at_call 7; refine (HP.out w4 HB4.out).mono ?_; rintro e w5 ⟨R, hm1, hm2, cs, rfl, hx, hb5⟩; obtain ⟨E2, E3, e2, e3, rfl, -, -⟩ := id hx.cells; have h6 := merge_six hm1 HT.out.2.2.2.1 HT.out.2.2.2.2; rw [h6] at hx ⊢; have hb5' := HB4.out.trans (hb5.mono HB4.out.size); have q5 := HC.out w5 hb5'; have HX := Lib.hid (And.intro hm1 (And.intro hm2 (And.intro hx (And.intro hb5' h6)))); clear hb5 hb5' hm1 hm2 hx h6)
    | fail)
  obtain ⟨hm1, hm2, hx, hb5, h6⟩ := HX.out
  have hx5 : TR w5 (All w5) R _ := hx.bound.mono (fun i q => q.2)
  obtain ⟨w6, hw6⟩ : ∃ W : World, w5.alloc (.cells #[.int .i64 6, .string R.f1, .slice E2 R.f2.length e2, .slice E3 R.f3.length e3] 25) = W := ⟨_, rfl⟩
  obtain ⟨g, hg⟩ : ∃ g, w5.heap.size = g := ⟨_, rfl⟩
  have hs5 := hb5.size
  have hb6 : Below w1.heap.size w1 w6 := by rw [← hw6]; exact hb5.alloc hs5 _
  have hb56 : Below w5.heap.size w5 w6 := by rw [← hw6]; exact (Below.refl _ _).alloc (Nat.le_refl _) _
  have hr6 : w6.heap[g]? = some (.cells #[.int .i64 6, .string R.f1, .slice E2 R.f2.length e2, .slice E3 R.f3.length e3] 25 (0, 0)) := by rw [← hw6, ← hg]; exact heap_alloc_new w5 _
  have hg6 : g < w6.heap.size := (Array.getElem?_eq_some_iff.1 hr6).1
  obtain ⟨ad, K4, hal⟩ : ∃ ad : Unit, ∃ K4 : S25 → Nat, ∀ R2 : S25, MergeTo R p R2 → tidy (1048576 + 1048576 + 1048576) R2 → spec_Alike.f (K4 R2) R2.f0 R2.f1 R2.f2 R2.f3 R.f0 R.f1 R.f2 R.f3 = some true := by
    have hK : ∀ R2 : S25, ∃ K : Nat, MergeTo R p R2 → tidy (1048576 + 1048576 + 1048576) R2 → spec_Alike.f K R2.f0 R2.f1 R2.f2 R2.f3 R.f0 R.f1 R.f2 R.f3 = some true := by
      intro R2
      by_cases q : MergeTo R p R2 ∧ tidy (1048576 + 1048576 + 1048576) R2
      · obtain ⟨K, hK⟩ := twice_alike (B := 1048576 + 1048576 + 1048576) (by decide) (tidy_mono (by decide) _ HT.out.1) (tidy_mono (by decide) _ HT.out.2.1) HT.out.2.2.1 hm1 q.1 (lim_mono (by decide) hm2) (tidy_lim _ q.2)
        exact ⟨K, fun _ _ => hK K (Nat.le_refl _)⟩
      · exact ⟨0, fun a b => absurd ⟨a, b⟩ q⟩
    obtain ⟨K4, hK4⟩ := Classical.axiomOfChoice hK
    exact ⟨(), K4, hK4⟩
  have HS : Hid (∀ W, Below w6.heap.size w6 W → W.cell? ⟨w.heap.size + 1, 0, none⟩ = some (.int .i64 k') ∧ W.cell? ⟨w.heap.size + 1, 1, none⟩ = some (.string t') ∧ W.cell? ⟨w.heap.size + 1, 2, none⟩ = some (.slice B2 m2 b2) ∧ W.cell? ⟨w.heap.size + 1, 3, none⟩ = some (.slice B3 m3 b3) ∧ W.cell? ⟨g, 0, none⟩ = some (.int .i64 6) ∧ W.cell? ⟨g, 1, none⟩ = some (.string R.f1) ∧ W.cell? ⟨g, 2, none⟩ = some (.slice E2 R.f2.length e2) ∧ W.cell? ⟨g, 3, none⟩ = some (.slice E3 R.f3.length e3)) := Lib.hid fun W hW => by
    have c := HC.out W (hb6.trans (hW.mono hb6.size))
    have e := (hW.block _ hg6).trans hr6
    exact ⟨c.2.2.2.2.1, c.2.2.2.2.2.1, c.2.2.2.2.2.2.1, c.2.2.2.2.2.2.2, cell_of_row _ _ 0 _ _ _ e, cell_of_row _ _ 1 _ _ _ e, cell_of_row _ _ 2 _ _ _ e, cell_of_row _ _ 3 _ _ _ e⟩
  have HP2 : Hid (∀ W, Below w6.heap.size w6 W → Calls Tryd.prog 7 #[(.agg #[.int .i64 6, .string R.f1, .slice E2 R.f2.length e2, .slice E3 R.f3.length e3]), (.agg #[.int .i64 k', .string t', .slice B2 m2 b2, .slice B3 m3 b3])] W (DMPost W R p (1048576 + 1048576 + 1048576))) := Lib.hid fun W hW => paMerge_any B (1048576 + 1048576) 1048576 (by decide) R p _ _ W hm2 HT.out.2.1 ((hx5.below' hb56).below' hW) (HD.out W (hb6.trans (hW.mono hb6.size))).2 (HG.out W (hb6.trans (hW.mono hb6.size)))
  have HA : Hid (∀ W, Below w6.heap.size w6 W → ∀ (R2 : S25) (S : Nat → Prop) (cs : List Value), MergeTo R p R2 → tidy (1048576 + 1048576 + 1048576) R2 → TR W S R2 cs → Calls Tryd.prog 8 #[.agg cs.toArray, .agg #[.int .i64 6, .string R.f1, .slice E2 R.f2.length e2, .slice E3 R.f3.length e3]] W (fun e w' => e = .returned (.bool true) ∧ Below W.heap.size W w')) := Lib.hid fun W hW R2 S cs q1 q2 q3 => alike_call q3 ((hx5.below' hb56).below' hW) (1048576 + 1048576 + 1048576) (by decide) (tidy_lim _ q2) (lim_mono (by decide) hm2) (hal R2 q1 q2)
  have HB6 := Lib.hid hb6
  have p6 := HS.out w6 (Below.refl _ _)
  clear HX hm1 hm2 hx hb5 h6 hx5 hs5 hb6 hb56 hr6 hg6 hal p0 q2 q3 q4 q5
  rw [hw6, hg]
  clear hw6 hw1 hg
  refine wp_region_held_drew (S := fun W => W.cell? ⟨w.heap.size + 1, 0, none⟩ = some (.int .i64 k') ∧ W.cell? ⟨w.heap.size + 1, 1, none⟩ = some (.string t') ∧ W.cell? ⟨w.heap.size + 1, 2, none⟩ = some (.slice B2 m2 b2) ∧ W.cell? ⟨w.heap.size + 1, 3, none⟩ = some (.slice B3 m3 b3) ∧ W.cell? ⟨g, 0, none⟩ = some (.int .i64 6) ∧ W.cell? ⟨g, 1, none⟩ = some (.string R.f1) ∧ W.cell? ⟨g, 2, none⟩ = some (.slice E2 R.f2.length e2) ∧ W.cell? ⟨g, 3, none⟩ = some (.slice E3 R.f3.length e3)) (by kernel_rfl) p6 (fun hHeld => ?_)
  refine wpAnyH_take (i := 0) (v := ?_) rfl (by kernel_rfl) (by kernel_rfl) (by kernel_rfl) (fun _ _ _ h => h) (Or.inl ⟨by rfl, ?_⟩) (by assumption) ?_
  rotate_left
  · intro W hSw; (try dsimp only at hSw); go_simp; (try with_reducible rfl)
  try simp only [Act.put, List.setIfInBounds_toArray, List.set_cons_zero, List.set_cons_succ]
  refine wpAnyH_take (i := 1) (v := ?_) rfl (by kernel_rfl) (by kernel_rfl) (by kernel_rfl) (fun _ _ _ h => h) (Or.inl ⟨by rfl, ?_⟩) (by assumption) ?_
  rotate_left
  · intro W hSw; (try dsimp only at hSw); go_simp; (try with_reducible rfl)
  try simp only [Act.put, List.setIfInBounds_toArray, List.set_cons_zero, List.set_cons_succ]
  refine wpAnyH_take (i := 2) (v := ?_) rfl (by kernel_rfl) (by kernel_rfl) (by kernel_rfl) (fun _ _ _ h => h) (Or.inl ⟨by rfl, ?_⟩) (by assumption) ?_
  rotate_left
  · intro W hSw; (try dsimp only at hSw); go_simp; (try with_reducible rfl)
  try simp only [Act.put, List.setIfInBounds_toArray, List.set_cons_zero, List.set_cons_succ]
  refine wpAnyH_take (i := 3) (v := ?_) rfl (by kernel_rfl) (by kernel_rfl) (by kernel_rfl) (fun _ _ _ h => h) (Or.inl ⟨by rfl, ?_⟩) (by assumption) ?_
  rotate_left
  · intro W hSw; (try dsimp only at hSw); go_simp; (try with_reducible rfl)
  try simp only [Act.put, List.setIfInBounds_toArray, List.set_cons_zero, List.set_cons_succ]
  refine wpAnyH_take (i := 4) (v := ?_) rfl (by kernel_rfl) (by kernel_rfl) (by kernel_rfl) (fun _ _ _ h => h) (Or.inl ⟨by rfl, ?_⟩) (by assumption) ?_
  rotate_left
  · intro W hSw; (try dsimp only at hSw); go_simp; (try with_reducible rfl)
  try simp only [Act.put, List.setIfInBounds_toArray, List.set_cons_zero, List.set_cons_succ]
  refine wpAnyH_take (i := 5) (v := ?_) rfl (by kernel_rfl) (by kernel_rfl) (by kernel_rfl) (fun _ _ _ h => h) (Or.inl ⟨by rfl, ?_⟩) (by assumption) ?_
  rotate_left
  · intro W hSw; (try dsimp only at hSw); go_simp; (try with_reducible rfl)
  try simp only [Act.put, List.setIfInBounds_toArray, List.set_cons_zero, List.set_cons_succ]
  refine wpAnyH_take (i := 7) (v := ?_) rfl (by kernel_rfl) (by kernel_rfl) (by kernel_rfl) (fun _ _ _ h => h) (Or.inl ⟨by rfl, ?_⟩) (by assumption) ?_
  rotate_left
  · intro W hSw; (try dsimp only at hSw); go_simp; (try with_reducible rfl)
  try simp only [Act.put, List.setIfInBounds_toArray, List.set_cons_zero, List.set_cons_succ]
  refine wpAnyH_ready (rs := [6]) (by kernel_rfl) (by simp) ?_
  refine AllReadyH.cons (o := _) rfl (fun K hK => ?_) ?_
  ·
    go_simp
    go_at_call 7
    refine (HP2.out _ ((Below.refl _ _).drew)).mono ?_
    rintro e w7 ⟨R2, hm1, hm2, cs, rfl, hx, hb7⟩
    obtain ⟨F2, F3, f2, f3, rfl, -, -⟩ := id hx.cells
    have hb67 := (Below.refl w6.heap.size w6).drew.trans hb7
    have p7 := HS.out w7 hb67
    have HX := Lib.hid (And.intro hm1 (And.intro hm2 (And.intro hx hb67)))
    clear hm1 hm2 hx hb7 hb67
    refine hK.out _ _ (by first | exact p6 | exact p7 | exact p8) (fun hHeld => ?_)
    clear hK K
    try simp only [Act.put, List.setIfInBounds_toArray, List.set_cons_zero, List.set_cons_succ]
    refine wpAnyH_ready (rs := [8]) (by kernel_rfl) (by simp) ?_
    refine AllReadyH.cons (o := _) rfl (fun K hK => ?_) ?_
    ·
      go_simp
      go_at_call 8
      refine (HA.out _ HX.out.2.2.2 R2 _ _ HX.out.1 HX.out.2.1 HX.out.2.2.1).mono ?_
      rintro e w8 ⟨rfl, hb8⟩
      have hb68 := HX.out.2.2.2.trans (hb8.mono HX.out.2.2.2.size)
      have p8 := HS.out w8 hb68
      have HB8 := Lib.hid hb68
      clear hb8 hb68
      refine hK.out _ _ (by first | exact p6 | exact p7 | exact p8) (fun hHeld => ?_)
      clear hK K
      try simp only [Act.put, List.setIfInBounds_toArray, List.set_cons_zero, List.set_cons_succ]
      refine wpAnyH_ready (rs := [9]) (by kernel_rfl) (by simp) ?_
      refine AllReadyH.cons (o := _) rfl (fun K hK => ?_) ?_
      ·
        go_simp
        refine hK.out _ _ (by first | exact p6 | exact p7 | exact p8) (fun hHeld => ?_)
        clear hK K
        try simp only [Act.put, List.setIfInBounds_toArray, List.set_cons_zero, List.set_cons_succ]
        refine wpAnyH_ready (rs := [10]) (by kernel_rfl) (by simp) ?_
        refine AllReadyH.cons (o := _) rfl (fun K hK => ?_) ?_
        ·
          go_simp
          refine hK.out _ _ (by first | exact p6 | exact p7 | exact p8) (fun hHeld => ?_)
          clear hK K
          try simp only [Act.put, List.setIfInBounds_toArray, List.set_cons_zero, List.set_cons_succ]
          refine wpAnyH_done (by kernel_rfl) ?_ _
          go_wp2_with fail; go_ret; exact ⟨rfl, HB.out.1.trans ((HB6.out.trans (HB8.out.mono HB6.out.size)).mono HB.out.1.size)⟩
        exact AllReadyH.nil
      exact AllReadyH.nil
    exact AllReadyH.nil
  exact AllReadyH.nil
end Go.Proofs.YtdjogkfgegopfaaDoor
namespace Go.Proofs.YtdjogkfgegopfaaDoor
open Go.ChangeShapes Go.WideShapes Go.ChangeAt Go.RowKit Go.Proofs.YtdjogkfgegopfaaDoor.MFnPaMergeAgain Go.Proofs.YtdjogkfgegopfaaDoor.Pure
set_option linter.unusedVariables false

theorem bulk_part {H : Type} {d : DataW H} {l : List (DataW H)} (h : d ∈ l) : Rows.uptoBulk d ≤ Rows.uptoBulkAll l := by
  induction l with
  | nil => cases h
  | cons x r ih =>
    simp only [Rows.uptoBulkAll]
    rcases List.mem_cons.1 h with e | e
    · subst e; omega
    · have := ih e; omega
theorem bulk_one {H : Type} (d : DataW H) : 1 ≤ Rows.uptoBulk d := by
  cases d with
  | lit l => cases l <;> simp [Rows.uptoBulk]
  | nil => simp [Rows.uptoBulk]
  | ptr d => simp [Rows.uptoBulk]
  | slice elems spare => simp [Rows.uptoBulk]
  | agg parts => simp [Rows.uptoBulk]
  | iface t d => simp [Rows.uptoBulk]
  | map entries => simp [Rows.uptoBulk]
  | held h => simp [Rows.uptoBulk]
theorem bulk_len {H : Type} (l : List (DataW H)) : l.length ≤ Rows.uptoBulkAll l := by
  induction l with
  | nil => simp [Rows.uptoBulkAll]
  | cons x r ih => have := bulk_one x; simp only [Rows.uptoBulkAll, List.length_cons]; omega
mutual
theorem big_mono {B C : Nat} (h : B ≤ C) : ∀ (t : S25), big B t → big C t
  | ⟨_, t, ks, vs⟩, q => by
    simp only [big] at q ⊢
    exact ⟨by omega, by omega, by omega, fun x hx => Nat.le_trans (q.2.2.2.1 x hx) h, bigL_mono h vs q.2.2.2.2⟩
theorem bigL_mono {B C : Nat} (h : B ≤ C) : ∀ (l : List S25), bigL B l → bigL C l
  | [], _ => by simp [bigL]
  | v :: r, q => by
    simp only [bigL] at q ⊢
    exact ⟨big_mono h v q.1, bigL_mono h r q.2⟩
end
theorem bigL_of {B : Nat} : ∀ {l : List S25}, (∀ v, v ∈ l → big B v) → bigL B l
  | [], _ => by simp [bigL]
  | v :: r, h => by
    simp only [bigL]
    exact ⟨h v List.mem_cons_self, bigL_of (fun u hu => h u (List.mem_cons_of_mem _ hu))⟩

theorem cells9 : Tryd.prog.cellsOf 9 = 1 := by kernel_rfl
theorem cellsNode : Tryd.prog.cellsOf 25 = 4 := by kernel_rfl
theorem cellsInt : Tryd.prog.cellsOf 3 = 1 := by kernel_rfl
theorem cellsNames : Tryd.prog.cellsOf 22 = 1 := by kernel_rfl
theorem cellsKids : Tryd.prog.cellsOf 23 = 1 := by kernel_rfl

/-- The names of a tree. -/
theorem open_names {H : Type} {enc : TypeId × Value → H} {W : World} {fuel : Nat} {v : Value} {x : DataW H × List MemPlace} (h : DataW.trod enc Tryd.prog W 0 (fun _ => true) true fuel 22 [v] = some x) :
    ∃ (A2 : Option Addr) (c2 : Nat) (ks : List ByteArray), v = .slice A2 ks.length c2 ∧ ks.length ≤ c2 ∧ (∀ i (hi : i < ks.length), ∃ ad, A2 = some ad ∧ All W ad.block ∧ W.cell? (ad.add i) = some (.string ks[i])) ∧ ks.length ≤ Rows.uptoBulk x.1 ∧ ∀ s, s ∈ ks → s.size ≤ Rows.uptoBulk x.1 := by
  rcases open_strings Tryd.underlying22 Tryd.underlying9 cells9 h with ⟨hcs, hx⟩ | ⟨a, len, cap, ss, hcs, _, hl, hm, hz, hx, hcell, _⟩
  · obtain rfl : v = .slice none 0 0 := by simpa using hcs
    exact ⟨none, 0, [], rfl, Nat.le_refl _, fun i hi => absurd hi (Nat.not_lt_zero _), Nat.zero_le _, fun s hs => by cases hs⟩
  · obtain rfl : v = .slice (some a) len cap := by simpa using hcs
    have hz : ss.length = cap := by simpa using hz
    have hlen : (ss.take len).length = len := by simp; omega
    subst hx
    have hb : Rows.uptoBulkAll (strs (H := H) (ss.take len)) ≤ Rows.uptoBulk (DataW.slice (strs (H := H) (ss.take len)) (strs (ss.drop len))) := by simp only [Rows.uptoBulk]; omega
    refine ⟨some a, cap, ss.take len, by rw [hlen], by rw [hlen]; exact hl, fun i hi => ?_, ?_, fun s hs => ?_⟩
    · rw [hlen] at hi
      have hc := hcell i (by omega)
      have e : (ss.take len)[i]'(by rw [hlen]; exact hi) = ss.getD i ByteArray.empty := by simp [List.getD, List.getElem?_eq_getElem (show i < ss.length by omega)]
      refine ⟨a, rfl, ?_, by rw [e]; exact hc⟩
      have := World.block_lt_of_cell? W _ hc
      rwa [add_block] at this
    · have := bulk_len (strs (H := H) (ss.take len))
      have e : (strs (H := H) (ss.take len)).length = (ss.take len).length := by simp [strs]
      exact Nat.le_trans (by omega) hb
    · have hmem : (DataW.lit (.string s.data.toList) : DataW H) ∈ strs (ss.take len) := List.mem_map.2 ⟨s, hs, rfl⟩
      have h1 := bulk_part hmem
      have h2 : Rows.uptoBulk (DataW.lit (.string s.data.toList) : DataW H) = s.data.toList.length + 1 := by simp [Rows.uptoBulk]
      have h3 : s.data.toList.length = s.size := by rw [Array.length_toList]; rfl
      exact Nat.le_trans (by omega) hb

set_option maxRecDepth 100000 in
theorem open_tree {H : Type} {enc : TypeId × Value → H} {W : World} : ∀ (fuel : Nat) (cs : List Value) (x : DataW H × List MemPlace), DataW.trod enc Tryd.prog W 0 (fun _ => true) true fuel 25 cs = some x → ∃ T, TR W (All W) T cs ∧ big (Rows.uptoBulk x.1) T
  | 0, cs, x, h => by simp [DataW.trod] at h
  | fuel + 1, cs, x, h => by
    obtain ⟨xs, n, hn, rfl, hl, hlen, hf⟩ := DataW.trod_struct Tryd.underlying25 h
    obtain rfl : n = fuel := by omega
    rw [cellsNode] at hl
    match cs, hl with
    | [v0, v1, v2, v3], _ =>
    match xs, hlen with
    | [y0, y1, y2, y3], _ =>
    have h0 : DataW.trod enc Tryd.prog W 0 (fun _ => true) true n 3 (([v0, v1, v2, v3].drop 0).take (Tryd.prog.cellsOf 3)) = some y0 := hf 0 _ rfl
    rw [cellsInt] at h0
    replace h0 : DataW.trod enc Tryd.prog W 0 (fun _ => true) true n 3 [v0] = some y0 := h0
    have h1 : DataW.trod enc Tryd.prog W 0 (fun _ => true) true n 9 (([v0, v1, v2, v3].drop 1).take (Tryd.prog.cellsOf 9)) = some y1 := hf 1 _ rfl
    rw [cells9] at h1
    replace h1 : DataW.trod enc Tryd.prog W 0 (fun _ => true) true n 9 [v1] = some y1 := h1
    have h2 : DataW.trod enc Tryd.prog W 0 (fun _ => true) true n 22 (([v0, v1, v2, v3].drop 2).take (Tryd.prog.cellsOf 22)) = some y2 := hf 2 _ rfl
    rw [cellsNames] at h2
    replace h2 : DataW.trod enc Tryd.prog W 0 (fun _ => true) true n 22 [v2] = some y2 := h2
    have h3 : DataW.trod enc Tryd.prog W 0 (fun _ => true) true n 23 (([v0, v1, v2, v3].drop 3).take (Tryd.prog.cellsOf 23)) = some y3 := hf 3 _ rfl
    rw [cellsKids] at h3
    replace h3 : DataW.trod enc Tryd.prog W 0 (fun _ => true) true n 23 [v3] = some y3 := h3
    obtain ⟨k, e0, rfl, _⟩ := DataW.trod_int Tryd.underlying3 h0
    obtain rfl : v0 = .int .i64 k := by simpa using e0
    obtain ⟨t, e1, rfl, _⟩ := DataW.trod_string Tryd.underlying9 h1
    obtain rfl : v1 = .string t := by simpa using e1
    obtain ⟨A2, c2, ks, rfl, l2, g2, b2, b2'⟩ := open_names h2
    have hB : Rows.uptoBulk (DataW.lit (.string t.data.toList) : DataW H) + Rows.uptoBulk y2.1 + Rows.uptoBulk y3.1 ≤ Rows.uptoBulk (DataW.agg (([(DataW.lit (.int .i64 k), []), (DataW.lit (.string t.data.toList), []), y2, y3] : List (DataW H × List MemPlace)).map (·.1))) := by
      simp only [List.map_cons, List.map_nil, Rows.uptoBulk, Rows.uptoBulkAll]
      omega
    have ht : t.size + 1 = Rows.uptoBulk (DataW.lit (.string t.data.toList) : DataW H) := by
      have h3 : t.data.toList.length = t.size := by rw [Array.length_toList]; rfl
      simp only [Rows.uptoBulk]
      omega
    rcases DataW.trod_slice Tryd.underlying23 h3 with ⟨hcs, hx⟩ | ⟨a, len, cap, elems, rest, m, hm, hcs, hx, _, hlc, _, hle, hel, _⟩
    · obtain rfl : v3 = .slice none 0 0 := by simpa using hcs
      refine ⟨⟨k, t, ks, []⟩, .mk k t ks [] A2 none c2 0 (fun _ => []) l2 (Nat.le_refl _) g2 (fun i hi => absurd hi (Nat.not_lt_zero _)) (fun i v hv => by simp at hv), ?_⟩
      simp only [big]
      exact ⟨by omega, by omega, Nat.zero_le _, fun s hs => by have := b2' s hs; omega, by simp [bigL]⟩
    · obtain rfl : v3 = .slice (some a) len cap := by simpa using hcs
      obtain ⟨rfl⟩ : n = m + 1 := hm
      have hk : ∀ i, ∃ (c : List Value) (T : S25), i < len → TR W (All W) T c ∧ big (Rows.uptoBulk y3.1) T ∧ All W a.block ∧ c.length = 4 ∧ ∀ j u, c[j]? = some u → W.cell? (a.add (i * 4 + j)) = some u := by
        intro i
        by_cases hi : i < len
        · have q := hel i hi
          rw [cellsNode, List.getElem?_eq_getElem (by omega)] at q
          obtain ⟨c, q1, q2⟩ := Option.bind_eq_some_iff.1 q
          obtain ⟨T, hT, hbT⟩ := open_tree m c _ q2
          obtain ⟨_, hcl, hcc⟩ := World.cells?_some q1
          have hmem : (elems[i]'(by omega)).1 ∈ elems.map (·.1) := List.mem_map.2 ⟨_, List.getElem_mem _, rfl⟩
          have h5 := bulk_part hmem
          have h6 : Rows.uptoBulkAll (elems.map (·.1)) ≤ Rows.uptoBulk y3.1 := by rw [hx]; simp only [Rows.uptoBulk]; omega
          have hcell : ∀ j u, c[j]? = some u → W.cell? (a.add (i * 4 + j)) = some u := by
            intro j u hu
            have hj : j < 4 := by
              have := (List.getElem?_eq_some_iff.1 hu).1
              omega
            have := hcc j hj
            rw [hu] at this
            rw [← this]
            rw [Addr.add_add]
          refine ⟨c, T, fun _ => ⟨hT, big_mono (by omega) T hbT, ?_, hcl, hcell⟩⟩
          have hc0 := hcell 0 (c[0]'(by omega)) (List.getElem?_eq_getElem _)
          have := World.block_lt_of_cell? W _ hc0
          rwa [add_block] at this
        · exact ⟨[], ⟨0, ByteArray.empty, [], []⟩, fun q => absurd q hi⟩
      obtain ⟨kc, hk⟩ := Classical.axiomOfChoice hk
      obtain ⟨tr, hk⟩ := Classical.axiomOfChoice hk
      have hvl : ((List.range len).map tr).length = len := by simp
      have hve : ∀ i v, ((List.range len).map tr)[i]? = some v → i < len ∧ v = tr i := by
        intro i v hv
        have hi : i < len := by have := (List.getElem?_eq_some_iff.1 hv).1; simpa using this
        refine ⟨hi, ?_⟩
        simp [hi] at hv
        exact hv.symm
      refine ⟨⟨k, t, ks, (List.range len).map tr⟩, ?_, ?_⟩
      · have := TR.mk (w := W) (S := All W) k t ks ((List.range len).map tr) A2 (some a) c2 cap kc l2 (by rw [hvl]; exact hlc) g2 (fun i hi => ?_) (fun i v hv => ?_)
        · rwa [hvl] at this
        · rw [hvl] at hi
          obtain ⟨_, _, h5, h6, h7⟩ := hk i hi
          exact ⟨a, rfl, h5, h6, h7⟩
        · obtain ⟨hi, rfl⟩ := hve i v hv
          exact (hk i hi).1
      · have hlb : len ≤ Rows.uptoBulk y3.1 := by
          have h5 := bulk_len (elems.map (·.1))
          rw [hx]
          simp only [Rows.uptoBulk]
          simp at h5
          omega
        simp only [big]
        refine ⟨by omega, by omega, by rw [hvl]; omega, fun s hs => by have := b2' s hs; omega, bigL_of (fun v hv => ?_)⟩
        obtain ⟨i, hi, rfl⟩ := List.mem_map.1 hv
        exact big_mono (by omega) _ (hk i (by simpa using hi)).2.1
end Go.Proofs.YtdjogkfgegopfaaDoor
