/- The walk of gjson's validobject: where an object's rest stands (of the grammar), it tells the place behind it. Condition: the text takes at most 2^31 - 1 bytes. -/
import Derived.Test.YtdokakhhpcckaaaVa2
namespace Go.Proofs.Ytdokakhhpcckaaa
open Go.RowKit Go.Proofs.Ytdokakhhpcckaaa.MFnPrSpecAgain Go.Proofs.YtdokakhhpcckaaaW.PrintWords Go.Proofs.YtdokakhhpcckaaaW.PrintLast Go.Proofs.Ytdokakhhpcckaaa.Pure

/-- The frame at the label. -/
def OA (t : ByteArray) (B c i : Nat) (f : Nat → Value) : Act := { tmps := #[.slice (some ⟨B, 0, none⟩) t.size c, .int .i64 (i : Int), f 2, f 3, f 4, f 5, f 6, f 7, f 8, f 9, f 10, f 11, f 12, f 13, f 14, f 15, f 16, f 17, f 18, f 19, f 20, f 21, f 22, f 23, f 24, f 25, f 26, f 27, f 28, f 29, f 30, f 31, f 32, f 33, f 34, f 35, f 36, f 37, f 38, f 39, f 40, f 41, f 42, f 43, f 44, f 45, f 46, f 47, f 48, f 49, f 50, f 51, f 52, f 53, f 54, f 55, f 56, f 57, f 58, f 59, f 60, f 61, f 62, f 63, f 64, f 65, f 66, f 67, f 68, f 69, f 70, f 71, f 72, f 73, f 74, f 75, f 76, f 77, f 78, f 79, f 80, f 81, f 82, f 83, f 84, f 85, f 86, f 87, f 88, f 89, f 90, f 91, f 92, f 93], defers := [] }
def OJ (t : ByteArray) (B c p q : Nat) (W : World) (a : Act) (w' : World) : Prop := ∃ (i : Nat) (Ns : List (Nat × Nat)) (Ts : List JT), (∃ f : Nat → Value, a = OA t B c i f) ∧ (p ≤ i ∧ i < t.size) ∧ Hid (JMs t.size (L t i) (L t q) Ns Ts) ∧ Hid (Drawn0 W w')
theorem oA {t : ByteArray} {B c i : Nat} {a : Act} (h : a = OA t B c i (fun n => a.tmps.getD n undef)) : ∃ f : Nat → Value, a = OA t B c i f := ⟨_, h⟩
def muO (t : ByteArray) (a : Act) (_w : World) : Nat := t.size - (intOf (a.tmps.getD 1 undef)).toNat

/-- A scope that begins with its one label, to which the run jumps back. -/
theorem scope_back {P : Program} {X : Code} {Q : Exit → Act → World → Prop} {a : Act} {w : World} (l : Nat) (J : Act → World → Prop) (μ : Act → World → Nat) (h0 : J a w) (hf : findLabel ((Code.label l).seq X) l = some (Code.skip.seq X))
    (pass : ∀ a w, J a w → X.wp P (Exit.jump l (fun a' w' => J a' w' ∧ μ a' w' < μ a w) Q) a w) : (Code.scope ((Code.label l).seq X)).wp P Q a w := by
  refine wp_scope_jumps l J μ hf (wp_seq (wp_label ?_)) (fun a w hJ => wp_seq (wp_skip ?_))
  · refine wp_mono (pass a w h0) (fun e a w h => ?_)
    cases e with
    | goto l' => exact ⟨h.1, h.2.1⟩
    | normal => exact h
    | exit id => exact h
    | ret => exact h
    | panic ch => exact h
    | outgrown => exact h
  · exact pass a w hJ

theorem jm_cons {n : Nat} {l r : List UInt8} {Ns : List (Nat × Nat)} {Ts : List JT} (h : JMs n l r Ns Ts) : ∃ s, l = 34 :: s := by
  cases h with
  | last s _ _ _ _ _ _ _ _ _ => exact ⟨s, rfl⟩
  | more s _ _ _ _ _ _ _ _ _ _ _ _ _ => exact ⟨s, rfl⟩

set_option maxHeartbeats 4000000 in
set_option maxRecDepth 100000 in
theorem obj_walk {t : ByteArray} {B c N : Nat} (hs : t.size ≤ 2147483647 ∧ t.size ≤ c ∧ c ≤ 9223372036854775807) (hV : VAny t B c N) : VObj t B c N := by
  intro p q W hR hp hq hN hJ
  have HR := Lib.hid hR
  have HV := Lib.hid hV
  have HJ := Lib.hid hJ
  have hsc : t.size ≤ 2147483647 ∧ t.size ≤ c := ⟨hs.1, hs.2.1⟩
  have hne0 : wsL (L t p) ≠ [] := by
    rcases hJ with h | ⟨Ns, Ts, h⟩
    · rw [h]; simp
    · obtain ⟨s, e1⟩ := jm_cons h
      rw [e1]; simp
  have HNE := Lib.hid hne0
  clear hR hV hJ hne0
  go_enter Try.func28, Try.ntmps28
  go_wp2
  go_loopg [1] (t.size + 1) (fun g v1 wc => ∃ i : Nat, v1 = .int .i64 (i : Int) ∧ (p ≤ i ∧ i ≤ t.size ∧ t.size < i + g) ∧ Hid (wsL (L t i) = wsL (L t p)) ∧ W = wc)
  case atStart => exact ⟨p, by go_num, by omega, Lib.hid rfl, rfl⟩
  case round =>
    obtain ⟨i, rfl, hI, HE, rfl⟩ := hrel
    cases gk with
    | zero => omega
    | succ j =>
    have hne : L t i ≠ [] := by
      intro e
      apply HNE.out
      rw [← HE.out, e]
      rfl
    obtain ⟨x, l, hl⟩ := List.exists_cons_of_ne_nil hne
    obtain ⟨hlt, _, hr⟩ := L_hv hl
    have hcell := HR.out.lit hl
    have hlt2 : i < t.size ∧ True := ⟨hlt, trivial⟩
    have bi : decide ((i : Int) < (t.size : Int)) = true := decide_eq_true (by omega)
    clear hne
    by_cases hb : blk x = true
    · have H2 : Hid (wsL (L t (i + 1)) = wsL (L t p)) := Lib.hid (by rw [← HE.out, hl, wsL_cons, if_pos hb, hr])
      clear hl hr
      rcases blk_four hb with e | e | e | e
      · subst e
        have hcell : W.cell? ⟨B, i, none⟩ = some (.int .u8 32) := hcell
        clear hb
        go_wp2
        go_roundg j
        case rel => exact ⟨i + 1, by go_num, by omega, H2, rfl⟩
        case measure => omega
      · subst e
        have hcell : W.cell? ⟨B, i, none⟩ = some (.int .u8 9) := hcell
        clear hb
        go_wp2
        go_roundg j
        case rel => exact ⟨i + 1, by go_num, by omega, H2, rfl⟩
        case measure => omega
      · subst e
        have hcell : W.cell? ⟨B, i, none⟩ = some (.int .u8 10) := hcell
        clear hb
        go_wp2
        go_roundg j
        case rel => exact ⟨i + 1, by go_num, by omega, H2, rfl⟩
        case measure => omega
      · subst e
        have hcell : W.cell? ⟨B, i, none⟩ = some (.int .u8 13) := hcell
        clear hb
        go_wp2
        go_roundg j
        case rel => exact ⟨i + 1, by go_num, by omega, H2, rfl⟩
        case measure => omega
    · have hb : blk x = false := by simpa using hb
      have hws : wsL (L t p) = x :: l := by rw [← HE.out, hl, wsL_of hb]
      rcases HJ.out with h93 | ⟨Ns, Ts, hJM⟩
      · rw [hws] at h93
        obtain ⟨e1, e2⟩ := List.cons.inj h93
        subst e1
        have hqi : q = i + 1 := L_inj hq (by omega) (e2.symm.trans hr)
        subst hqi
        have hcell : W.cell? ⟨B, i, none⟩ = some (.int .u8 125) := hcell
        clear hb hl hr hws h93 e2
        go_wp2
        go_ret2
        exact ⟨by (try simp); (try omega), .refl _⟩
      · have hx : x = 34 := by
          obtain ⟨s, e1⟩ := jm_cons hJM
          exact (List.cons.inj (hws.symm.trans e1)).1
        subst hx
        have hcell : W.cell? ⟨B, i, none⟩ = some (.int .u8 34) := hcell
        have HE0 : Hid (JMs t.size (L t i) (L t q) Ns Ts) := Lib.hid (by rw [hl, ← hws]; exact hJM)
        clear hb hl hr hws hJM
        go_wp2
        refine scope_back 0 (OJ t B c p q W) (muO t) ⟨i, Ns, Ts, oA rfl, ⟨by omega, by omega⟩, HE0, Lib.hid (.refl _)⟩ rfl ?_
        rintro a w' ⟨i2, Ns2, Ts2, ⟨f, rfl⟩, hI2, HE2, HD⟩
        clear HE0 hcell
        have hje := HE2.out
        generalize hr : L t q = r2 at hje
        generalize hl : L t i2 = l2 at hje
        have hmu : muO t (OA t B c i2 f) w' = t.size - i2 := rfl
        unfold OA
        cases hje with
        | last s c0 v m _ T h1 h2 h3 h4 =>
          subst hr
          obtain ⟨hlt0, _, hs1⟩ := L_hv hl
          subst hs1
          obtain ⟨c1, rfl, hc1, hc2⟩ := L_sfx (by omega) h1.split
          obtain ⟨v1, rfl, hv1, hv2⟩ := L_after hc2 (show After (L t c1) v from by
            obtain ⟨s, hs⟩ := wsL_split (L t c1)
            exact ⟨s ++ [58], by rw [List.append_assoc, List.singleton_append, ← h2]; exact hs, by simp⟩)
          obtain ⟨v2, hw2, hv3, hv4⟩ := ws_at hv2
          have haft := jv_after h3
          rw [hw2] at haft
          obtain ⟨m1, rfl, hm1, hm2⟩ := L_after hv4 haft
          have HRw := Lib.hid (HR.out.drawn HD.out)
          have HK1 := Lib.hid (ct (c_str (i := i2 + 1) (c := c) (B := B) hsc HRw.out (by omega) hc2 h1))
          have HK2 := Lib.hid fun W' h => c_col (c := c) (B := B) (W := W') hsc h hc2 hv2 h2
          have HK3 := Lib.hid fun W' h => HV.out v1 m1 T W' h hv2 hm2 (by omega) h3
          obtain ⟨m2, e1, e2, e3⟩ := c_comW (B := B) hsc hm2 125 125 (.inr rfl) h4
          obtain ⟨hlt4, _, e4⟩ := L_hv e1
          have hqi : q = m2 + 1 := L_inj hq (by omega) e4
          subst hqi
          have HK4 := Lib.hid e3
          have HCell : Hid (∀ W', Rd t B W' → W'.cell? ⟨B, m2, none⟩ = some (.int .u8 125)) := Lib.hid fun W' h => h.lit e1
          have hm2' : m2 < t.size ∧ True := ⟨hlt4, trivial⟩
          clear haft e1 e3 e4 h1 h2 h3 h4 hw2 hl hmu
          go_wp2_with (first | (go_at_call 30; refine HK1.out.mono ?_; rintro e w1 ⟨rfl, hd⟩; have HD1 := Lib.hid hd; clear hd; have HR1 := Lib.hid (HRw.out.drawn HD1.out); have HC2 := Lib.hid (HK2.out w1 HR1.out)) | (go_at_call 35; refine HC2.out.mono ?_; rintro e w2 ⟨rfl, hd⟩; have HD2 := Lib.hid hd; clear hd; have HR2 := Lib.hid (HR1.out.drawn HD2.out); have HC3 := Lib.hid (HK3.out w2 HR2.out)) | (go_at_call 25; refine HC3.out.mono ?_; rintro e w3 ⟨rfl, hd⟩; have HD3 := Lib.hid hd; clear hd; have HR3 := Lib.hid (HR2.out.drawn HD3.out); have HC4 := Lib.hid (HK4.out w3 HR3.out)) | (go_at_call 36; refine HC4.out.mono ?_; rintro e w4 ⟨rfl, hd⟩; have HD4 := Lib.hid hd; clear hd; have HR4 := Lib.hid (HR3.out.drawn HD4.out); have hc4 := HCell.out w4 HR4.out) | fail)
          go_ret2
          exact ⟨by (try simp); (try omega), drawn_trans HD.out (drawn_trans (drawn_trans (drawn_trans HD1.out HD2.out) HD3.out) HD4.out)⟩
        | more s c0 v m m' _ T Ns3 Ts3 h1 h2 h3 h4 h5 =>
          subst hr
          obtain ⟨hlt0, _, hs1⟩ := L_hv hl
          subst hs1
          obtain ⟨c1, rfl, hc1, hc2⟩ := L_sfx (by omega) h1.split
          obtain ⟨v1, rfl, hv1, hv2⟩ := L_after hc2 (show After (L t c1) v from by
            obtain ⟨s, hs⟩ := wsL_split (L t c1)
            exact ⟨s ++ [58], by rw [List.append_assoc, List.singleton_append, ← h2]; exact hs, by simp⟩)
          obtain ⟨v2, hw2, hv3, hv4⟩ := ws_at hv2
          have haft := jv_after h3
          rw [hw2] at haft
          obtain ⟨m1, rfl, hm1, hm2⟩ := L_after hv4 haft
          have HRw := Lib.hid (HR.out.drawn HD.out)
          have HK1 := Lib.hid (ct (c_str (i := i2 + 1) (c := c) (B := B) hsc HRw.out (by omega) hc2 h1))
          have HK2 := Lib.hid fun W' h => c_col (c := c) (B := B) (W := W') hsc h hc2 hv2 h2
          have HK3 := Lib.hid fun W' h => HV.out v1 m1 T W' h hv2 hm2 (by omega) h3
          obtain ⟨m2, e1, e2, e3⟩ := c_comW (B := B) hsc hm2 125 44 (.inl rfl) h4
          obtain ⟨hlt4, _, e4⟩ := L_hv e1
          subst e4
          have HK4 := Lib.hid e3
          have HCell : Hid (∀ W', Rd t B W' → W'.cell? ⟨B, m2, none⟩ = some (.int .u8 44)) := Lib.hid fun W' h => h.lit e1
          have hm2' : m2 < t.size ∧ True := ⟨hlt4, trivial⟩
          have HE5 := Lib.hid h5
          clear haft e1 e3 h1 h2 h3 h4 h5 hw2 hl
          go_wp2_with (first | (go_at_call 30; refine HK1.out.mono ?_; rintro e w1 ⟨rfl, hd⟩; have HD1 := Lib.hid hd; clear hd; have HR1 := Lib.hid (HRw.out.drawn HD1.out); have HC2 := Lib.hid (HK2.out w1 HR1.out)) | (go_at_call 35; refine HC2.out.mono ?_; rintro e w2 ⟨rfl, hd⟩; have HD2 := Lib.hid hd; clear hd; have HR2 := Lib.hid (HR1.out.drawn HD2.out); have HC3 := Lib.hid (HK3.out w2 HR2.out)) | (go_at_call 25; refine HC3.out.mono ?_; rintro e w3 ⟨rfl, hd⟩; have HD3 := Lib.hid hd; clear hd; have HR3 := Lib.hid (HR2.out.drawn HD3.out); have HC4 := Lib.hid (HK4.out w3 HR3.out)) | (go_at_call 36; refine HC4.out.mono ?_; rintro e w4 ⟨rfl, hd⟩; have HD4 := Lib.hid hd; clear hd; have HR4 := Lib.hid (HR3.out.drawn HD4.out); have hc4 := HCell.out w4 HR4.out) | fail)
          go_loopg [1] (t.size + 1) (fun g v1 wc => ∃ i : Nat, v1 = .int .i64 (i : Int) ∧ (m2 + 1 ≤ i ∧ i ≤ t.size ∧ t.size < i + g) ∧ Hid (wsL (L t i) = wsL (L t (m2 + 1))) ∧ w4 = wc)
          case atStart => exact ⟨m2 + 1, by go_num, by omega, Lib.hid rfl, rfl⟩
          case round =>
            obtain ⟨i3, rfl, hI3, HE3, rfl⟩ := hrel
            cases gk with
            | zero => omega
            | succ j3 =>
            obtain ⟨s5, hs5⟩ := jm_cons HE5.out
            have hne : L t i3 ≠ [] := by
              intro e
              have := HE3.out
              rw [e, hs5] at this
              cases this
            obtain ⟨x3, l3, hl3⟩ := List.exists_cons_of_ne_nil hne
            obtain ⟨hlt5, _, hr5⟩ := L_hv hl3
            have hcell5 := HR4.out.lit hl3
            have hlt6 : i3 < t.size ∧ True := ⟨hlt5, trivial⟩
            have bi5 : decide ((i3 : Int) < (t.size : Int)) = true := decide_eq_true (by omega)
            clear hne
            by_cases hb : blk x3 = true
            · have H5 : Hid (wsL (L t (i3 + 1)) = wsL (L t (m2 + 1))) := Lib.hid (by rw [← HE3.out, hl3, wsL_cons, if_pos hb, hr5])
              clear hl3 hr5 hs5
              rcases blk_four hb with e | e | e | e
              · subst e
                have hcell5 : w4.cell? ⟨B, i3, none⟩ = some (.int .u8 32) := hcell5
                clear hb
                go_wp2
                go_roundg j3
                case rel => exact ⟨i3 + 1, by go_num, by omega, H5, rfl⟩
                case measure => omega
              · subst e
                have hcell5 : w4.cell? ⟨B, i3, none⟩ = some (.int .u8 9) := hcell5
                clear hb
                go_wp2
                go_roundg j3
                case rel => exact ⟨i3 + 1, by go_num, by omega, H5, rfl⟩
                case measure => omega
              · subst e
                have hcell5 : w4.cell? ⟨B, i3, none⟩ = some (.int .u8 10) := hcell5
                clear hb
                go_wp2
                go_roundg j3
                case rel => exact ⟨i3 + 1, by go_num, by omega, H5, rfl⟩
                case measure => omega
              · subst e
                have hcell5 : w4.cell? ⟨B, i3, none⟩ = some (.int .u8 13) := hcell5
                clear hb
                go_wp2
                go_roundg j3
                case rel => exact ⟨i3 + 1, by go_num, by omega, H5, rfl⟩
                case measure => omega
            · have hb : blk x3 = false := by simpa using hb
              have hws : wsL (L t (m2 + 1)) = x3 :: l3 := by rw [← HE3.out, hl3, wsL_of hb]
              have hx : x3 = 34 := (List.cons.inj (hws.symm.trans hs5)).1
              subst hx
              have hcell5 : w4.cell? ⟨B, i3, none⟩ = some (.int .u8 34) := hcell5
              have HE6 : Hid (JMs t.size (L t i3) (L t q) Ns3 Ts3) := Lib.hid (by rw [hl3, ← hws]; exact HE5.out)
              clear hb hl3 hr5 hws hs5
              go_wp2
              go_step3
              refine ⟨rfl, ⟨i3, Ns3, Ts3, oA rfl, ⟨by omega, by omega⟩, HE6, Lib.hid (drawn_trans HD.out (drawn_trans (drawn_trans (drawn_trans HD1.out HD2.out) HD3.out) HD4.out))⟩, ?_⟩
              show t.size - i3 < t.size - i2
              omega
end Go.Proofs.Ytdokakhhpcckaaa
