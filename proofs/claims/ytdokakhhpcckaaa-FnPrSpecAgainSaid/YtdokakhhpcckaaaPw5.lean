/- The walks of impl's PrSpec and of the row's own function. Condition of PrSpec's: the text takes at most 2^31 - 1 bytes. -/
import Derived.Test.YtdokakhhpcckaaaPw4
import Derived.Test.YtdokakhhpcckaaaVa4
namespace Go.Proofs.Ytdokakhhpcckaaa
open Go.RowKit Go.Proofs.Ytdokakhhpcckaaa.MFnPrSpecAgain Go.Proofs.YtdokakhhpcckaaaW.PrintWords Go.Proofs.YtdokakhhpcckaaaW.PrintLast Go.Proofs.Ytdokakhhpcckaaa.Pure

theorem conv_R {w : World} {base : Nat} {v : Value} {g : List UInt8} (hg : g ≠ []) (h : Kd.R (Kd.int .u8) 5 w base (fun _ => True) v (I g)) : (convert 26 9 v).run Try.prog w = .ok (.string ⟨g.toArray⟩) w := by
  have hlen : (I g).length = g.length := I_len g
  have hpos : 0 < (I g).length := by rw [hlen]; exact List.length_pos_iff.2 hg
  obtain ⟨ad, c, rfl⟩ := Kd.R_slice1 h hpos
  obtain ⟨b, rfl⟩ := Kd.R_head h
  have hc := (Kd.own_of_R h).cells (g := b) rfl
  have hm0 : encs (Value.int .u8) (I g) = (g.map (fun b => (b.toNat : Int))).map (Value.int .u8) := rfl
  have hl := run_loadCells_list (P := Try.prog) w ⟨b, 0, none⟩ (encs (Value.int .u8) (I g)) hc
  have hln : (encs (Value.int .u8) (I g)).length = g.length := by rw [hm0]; simp
  rw [hln, hm0] at hl
  rw [hlen, run_convert_bytes_string w 26 9 5 _ _ c Try.underlying26 Try.underlying5 Try.underlying9, run_bytesToString w _ _ c (g.map (fun b => (b.toNat : Int))) hl, foldl_push_byteCells]
  simp [ByteArray.empty, ByteArray.emptyWithCapacity]
  rfl

def SPostS (g : List UInt8) (W : World) : Ending → World → Prop := fun e w' => e = .returned (.string ⟨g.toArray⟩) ∧ Below W.heap.size W w'

set_option maxHeartbeats 1000000 in
set_option maxRecDepth 100000 in
theorem prspec_any {t : ByteArray} (hs : t.size ≤ 2147483647) {g : List UInt8} (hg : g ≠ []) (h : Pure.Ev (fun k => pretty_Spec.f k (D t)) (I g)) (W : World) :
    Calls Try.prog 5 #[.string t] W (SPostS g W) := by
  obtain ⟨cap, w1, hcv, hrow, hcap, hmx⟩ := unc_conv W t (by omega)
  have hb1 := hrow.below
  have hR : Rd t W.heap.size w1 := fun j h => hrow.cell j t[j] (by
    have hl : j < t.data.toList.length := by rw [Array.length_toList]; exact h
    rw [List.getElem?_eq_getElem hl]
    rfl)
  obtain ⟨K, hK⟩ := h
  have hc := pretty_Spec.calls K (some ⟨W.heap.size, 0, none⟩) cap (D t) (I g) w1 (hR.C hs) (by rw [D_len]; exact hcap) (hK K (Nat.le_refl _))
  rw [D_len] at hc
  have HC := Lib.hid hc
  have HB := Lib.hid hb1
  have hm : cap ≤ 9223372036854775807 := by simp only [maxLen] at hmx; omega
  clear hK hc hrow hmx hb1 hR
  go_enter Try.func5, Try.ntmps5
  go_wp2_with (first | (go_at_call 11; refine HC.out.mono ?_; rintro e w2 ⟨v0, rfl, hRR, hb⟩; have hcv2 := conv_R hg hRR; have HB2 := Lib.hid hb; clear hb hRR) | fail)
  go_ret
  exact ⟨rfl, HB.out.trans (HB2.out.mono HB.out.size)⟩

/-- What the row's own function needs of a text that Uncommented takes. -/
theorem again_of {t s : ByteArray} (hs : t.size ≤ 4096) (hu : UncR t t.data.toList (-1) 0 s.data.toList) (hj : ∃ T, JText s.data.toList T) :
    ∃ o : ByteArray, (∀ W, Calls Try.prog 5 #[.string t] W fun e w' => e = .returned (.string o) ∧ Below W.heap.size W w') ∧
      (∀ W, Calls Try.prog 5 #[.string o] W fun e w' => e = .returned (.string o) ∧ Below W.heap.size W w') ∧ (∀ W, Calls Try.prog 6 #[.string o] W (BPost W)) := by
  obtain ⟨T, hT⟩ := hj
  have hfw := unc_all hu
  obtain ⟨g, hg1, hg2⟩ := fw_other (b' := bp) blk_bl blk_bp hfw
  have hcl : Pure.Clean s.data.toList := (jtext_kp (b := bl) hT).2
  have hcg := clean_sk hcl hg2
  obtain ⟨T2, hT2⟩ := jtext_sk hT hg2
  have hk := jtext_kp (b := bp) hT2
  have hlen : g.length = t.size := by
    have h1 : ∀ {b : UInt8 → UInt8} {l f : List UInt8}, Fw b l f → l.length = f.length := by
      intro b l f h
      induction h with
      | nil => rfl
      | cmt m c r f h1 h2 _ ih => rw [h2, List.length_append, List.length_append, List.length_map, ih]
      | str u r f h1 _ ih => simp only [List.length_cons, List.length_append, ih]
      | drop l f _ _ ih => simp only [List.length_cons, ih]
      | keep l f _ _ ih => simp only [List.length_cons, ih]
      | oth c l f _ _ _ _ ih => simp only [List.length_cons, ih]
    rw [← h1 hg1, Array.length_toList]
    rfl
  have hne : g ≠ [] := by
    rintro rfl
    obtain ⟨r, h1, _⟩ := hT2
    obtain ⟨s, e1, e2⟩ := jv_after h1
    have := congrArg List.length e1
    rw [List.length_append] at this
    simp [wsL] at this
    omega
  have hosz : (⟨g.toArray⟩ : ByteArray).size = t.size := by rw [← hlen]; simp [ByteArray.size]
  refine ⟨⟨g.toArray⟩, fun W => prspec_any (by omega) hne (spec_fwd (by omega) hg1 hcg) W, fun W => ?_, fun W => ?_⟩
  · exact prspec_any (by rw [hosz]; omega) hne (spec_fwd (by rw [hosz]; omega) hk.1 hk.2) W
  · exact gjvalid_walk (by rw [hosz]; omega) hT2 W

set_option maxHeartbeats 1000000 in
set_option maxRecDepth 100000 in
theorem law_any (t : ByteArray) (W : World) (hs : t.size ≤ 140737488351232) :
    Calls Try.prog 3 #[.string t] W (BPost W) := by
  by_cases h1 : t.size ≤ 4096
  · have b1 : decide (2147483647 < (t.size : Int)) = false := decide_eq_false (by omega)
    have b2 : decide (4096 < (t.size : Int)) = false := decide_eq_false (by omega)
    have HU := Lib.hid (unc_any t W (by omega))
    go_enter Try.func3, Try.ntmps3
    go_upto_region 6 with (first | (go_at_call 4; refine HU.out.mono ?_; rintro e w1 ⟨s, b, rfl, hb, hok⟩; have HB := Lib.hid hb; have HOK := Lib.hid hok; clear hb hok) | fail)
    cases b with
    | false =>
      go_wp2
      go_ret
      exact ⟨rfl, HB.out⟩
    | true =>
      obtain ⟨hu, hj⟩ := HOK.out rfl
      obtain ⟨o, k1, k2, k3⟩ := again_of h1 hu hj
      have K1 := Lib.hid k1
      have K2 := Lib.hid k2
      have K3 := Lib.hid k3
      clear k1 k2 k3 hu hj HOK HU
      go_upto_region 9 with (first | (go_at_call 5; refine (K1.out _).mono ?_; rintro e w2 ⟨rfl, hb⟩; have HB2 := Lib.hid (HB.out.trans (hb.mono HB.out.size)); clear hb) | fail)
      clear K1
      go_wp2_with (first | (go_at_call 6; refine (K3.out _).mono ?_; rintro e w3 ⟨rfl, hb⟩; have HB3 := Lib.hid (HB2.out.trans (hb.mono HB2.out.size)); clear hb) | (go_at_call 5; refine (K2.out _).mono ?_; rintro e w4 ⟨rfl, hb⟩; have HB4 := Lib.hid (HB3.out.trans (hb.mono HB3.out.size)); clear hb) | fail)
      go_ret
      exact ⟨rfl, HB4.out⟩
  · have b2 : decide (4096 < (t.size : Int)) = true := decide_eq_true (by omega)
    by_cases h2 : t.size ≤ 2147483647
    · have b1 : decide (2147483647 < (t.size : Int)) = false := decide_eq_false (by omega)
      go_enter Try.func3, Try.ntmps3
      go_wp2
      go_ret
      exact ⟨rfl, Below.refl _ _⟩
    · have b1 : decide (2147483647 < (t.size : Int)) = true := decide_eq_true (by omega)
      go_enter Try.func3, Try.ntmps3
      go_wp2
      go_ret
      exact ⟨rfl, Below.refl _ _⟩
end Go.Proofs.Ytdokakhhpcckaaa
