/- The walks of gjson's validpayload, stringBytes, Valid and of impl's GjValid: a JSON text is valid. Condition: the text takes at most 2^31 - 1 bytes. -/
import Derived.Test.YtdokakhhpcckaaaVa3
namespace Go.Proofs.Ytdokakhhpcckaaa
open Go.RowKit Go.Proofs.Ytdokakhhpcckaaa.MFnPrSpecAgain Go.Proofs.YtdokakhhpcckaaaW.PrintWords Go.Proofs.YtdokakhhpcckaaaW.PrintLast Go.Proofs.Ytdokakhhpcckaaa.Pure

theorem any_all {t : ByteArray} {B c : Nat} (hs : t.size ≤ 2147483647 ∧ t.size ≤ c ∧ c ≤ 9223372036854775807) : ∀ N, VAny t B c N := by
  intro N
  induction N with
  | zero =>
    intro p q T W _ hp _ hN hj
    rw [L_nil (by omega)] at hj
    obtain ⟨s, e1, e2⟩ := jv_after hj
    have := congrArg List.length e1
    rw [List.length_append] at this
    simp [wsL] at this
    omega
  | succ N ih => exact any_walk hs (arr_walk hs ih) (obj_walk hs ih)

theorem wsL_nil_cons {x : UInt8} {l : List UInt8} (h : wsL (x :: l) = []) : blk x = true ∧ wsL l = [] := by
  rw [wsL_cons] at h
  by_cases hb : blk x = true
  · rw [if_pos hb] at h
    exact ⟨hb, h⟩
  · rw [if_neg hb] at h
    cases h

set_option maxHeartbeats 4000000 in
set_option maxRecDepth 100000 in
theorem payload_walk {t : ByteArray} {B c : Nat} (hs : t.size ≤ 2147483647 ∧ t.size ≤ c ∧ c ≤ 9223372036854775807) {T : JT} (hT : JText t.data.toList T) (W : World) (hR : Rd t B W) :
    Calls Try.prog 17 #[.slice (some ⟨B, 0, none⟩) t.size c, .int .i64 0] W (VQ t.size W) := by
  obtain ⟨r, hJ, hw⟩ := hT
  rw [show t.data.toList.length = t.size from Array.length_toList] at hJ
  have hL0 : L t 0 = t.data.toList := rfl
  rw [← hL0] at hJ
  obtain ⟨q0, hq0, _, hq1⟩ := ws_at (t := t) (p := 0) (by omega)
  have haft := jv_after hJ
  rw [hq0] at haft
  obtain ⟨q, rfl, hqa, hqb⟩ := L_after hq1 haft
  have HR := Lib.hid hR
  have HJ := Lib.hid hJ
  have HW := Lib.hid hw
  have HV := Lib.hid (any_all (B := B) hs)
  have hsc : t.size ≤ 2147483647 ∧ t.size ≤ c := ⟨hs.1, hs.2.1⟩
  clear hR hJ hw hL0 haft hq0
  go_enter Try.func17, Try.ntmps17
  go_wp2
  go_loopg [1] (t.size + 1) (fun g v1 wc => ∃ i : Nat, v1 = .int .i64 (i : Int) ∧ (i ≤ t.size ∧ t.size < i + g) ∧ Hid (wsL (L t i) = wsL (L t 0)) ∧ W = wc)
  case atStart => exact ⟨0, by go_num, by omega, Lib.hid rfl, rfl⟩
  case round =>
    obtain ⟨i, rfl, hI, HE, rfl⟩ := hrel
    cases gk with
    | zero => omega
    | succ j =>
    have hJ := HJ.out
    rw [← HE.out] at hJ
    have hne : L t i ≠ [] := by
      intro e
      rw [e] at hJ
      obtain ⟨s, e1, e2⟩ := jv_after hJ
      have := congrArg List.length e1
      rw [List.length_append] at this
      simp [wsL] at this
      omega
    obtain ⟨x, l, hl⟩ := List.exists_cons_of_ne_nil hne
    obtain ⟨hlt, _, hr⟩ := L_hv hl
    have hcell := HR.out.lit hl
    have hlt2 : i < t.size ∧ True := ⟨hlt, trivial⟩
    have bi : decide ((i : Int) < (t.size : Int)) = true := decide_eq_true (by omega)
    clear hne
    by_cases hb : blk x = true
    · have H2 : Hid (wsL (L t (i + 1)) = wsL (L t 0)) := Lib.hid (by rw [← HE.out, hl, wsL_cons, if_pos hb, hr])
      clear hl hr hJ
      rcases blk_four hb with e | e | e | e
      · subst e
        have hcell : W.cell? ⟨B, i, none⟩ = some (.int .u8 32) := hcell
        clear hb
        go_wp2
        go_roundg j
        case rel => exact ⟨i + 1, by go_num, by omega, H2, rfl⟩
        case measure => omega
      · subst e
        have hcell : W.cell? ⟨B, i, none⟩ = some (.int .u8 9) := hcell
        clear hb
        go_wp2
        go_roundg j
        case rel => exact ⟨i + 1, by go_num, by omega, H2, rfl⟩
        case measure => omega
      · subst e
        have hcell : W.cell? ⟨B, i, none⟩ = some (.int .u8 10) := hcell
        clear hb
        go_wp2
        go_roundg j
        case rel => exact ⟨i + 1, by go_num, by omega, H2, rfl⟩
        case measure => omega
      · subst e
        have hcell : W.cell? ⟨B, i, none⟩ = some (.int .u8 13) := hcell
        clear hb
        go_wp2
        go_roundg j
        case rel => exact ⟨i + 1, by go_num, by omega, H2, rfl⟩
        case measure => omega
    · have hb : blk x = false := by simpa using hb
      obtain ⟨b32, b9, b10, b13⟩ := blk_ne hb
      have HC := Lib.hid (HV.out t.size i q T W HR.out (by omega) hqb (by omega) hJ)
      clear hl hr hJ hb
      go_wp2_with (first | (go_at_call 25; refine HC.out.mono ?_; rintro e w2 ⟨rfl, hd⟩; have HD := Lib.hid hd; clear hd) | fail)
      go_loopg [1] (t.size + 1) (fun g v1 wc => ∃ i : Nat, v1 = .int .i64 (i : Int) ∧ (i ≤ t.size ∧ t.size < i + g) ∧ Hid (wsL (L t i) = []) ∧ w2 = wc)
      case atStart => exact ⟨q, by go_num, by omega, HW, rfl⟩
      case round =>
        clear b32 b9 b10 b13 hcell
        obtain ⟨i2, rfl, hI2, HE2, rfl⟩ := hrel
        cases gk with
        | zero => omega
        | succ j2 =>
        by_cases hlt3 : i2 < t.size
        · have hl2 := L_cons hlt3
          obtain ⟨x2, hx2⟩ : ∃ x, x = t[i2] := ⟨_, rfl⟩
          rw [← hx2] at hl2
          obtain ⟨hb2, hw2⟩ := wsL_nil_cons (by rw [← hl2]; exact HE2.out)
          have hcell2 := (HR.out.drawn HD.out).lit hl2
          have bi2 : decide ((i2 : Int) < (t.size : Int)) = true := decide_eq_true (by omega)
          have H3 := Lib.hid hw2
          clear hl2 hx2 hw2
          rcases blk_four hb2 with e | e | e | e
          · subst e
            have hcell2 : w2.cell? ⟨B, i2, none⟩ = some (.int .u8 32) := hcell2
            clear hb2
            go_wp2
            go_roundg j2
            case rel => exact ⟨i2 + 1, by go_num, by omega, H3, rfl⟩
            case measure => omega
          · subst e
            have hcell2 : w2.cell? ⟨B, i2, none⟩ = some (.int .u8 9) := hcell2
            clear hb2
            go_wp2
            go_roundg j2
            case rel => exact ⟨i2 + 1, by go_num, by omega, H3, rfl⟩
            case measure => omega
          · subst e
            have hcell2 : w2.cell? ⟨B, i2, none⟩ = some (.int .u8 10) := hcell2
            clear hb2
            go_wp2
            go_roundg j2
            case rel => exact ⟨i2 + 1, by go_num, by omega, H3, rfl⟩
            case measure => omega
          · subst e
            have hcell2 : w2.cell? ⟨B, i2, none⟩ = some (.int .u8 13) := hcell2
            clear hb2
            go_wp2
            go_roundg j2
            case rel => exact ⟨i2 + 1, by go_num, by omega, H3, rfl⟩
            case measure => omega
        · have hie : i2 = t.size := by omega
          subst hie
          have bi2 : decide ((t.size : Int) < (t.size : Int)) = false := decide_eq_false (by omega)
          have bi3 : (t.size < t.size) = False := eq_false (Nat.lt_irrefl _)
          clear hlt3
          go_wp2
          go_ret2
          exact ⟨rfl, HD.out⟩

def BPost (W : World) : Ending → World → Prop := fun e w' => e = .returned (.bool true) ∧ Below W.heap.size W w'

set_option maxHeartbeats 1000000 in
set_option maxRecDepth 100000 in
theorem valid_walk {t : ByteArray} (hs : t.size ≤ 2147483647) {T : JT} (hT : JText t.data.toList T) (W : World) :
    Calls Try.prog 12 #[.string t] W (BPost W) := by
  obtain ⟨cap, w1, hcv, hrow, hcap, hmx⟩ := unc_conv W t (by omega)
  have hb1 := hrow.below
  have hR : Rd t W.heap.size w1 := fun j h => hrow.cell j t[j] (by
    have hl : j < t.data.toList.length := by rw [Array.length_toList]; exact h
    rw [List.getElem?_eq_getElem hl]
    rfl)
  have HP := Lib.hid (payload_walk (B := W.heap.size) (c := cap) ⟨hs, hcap, by simp only [maxLen] at hmx; omega⟩ hT w1 hR)
  have HB := Lib.hid hb1
  have HCV : Hid (Calls Try.prog 18 #[.string t] W fun e w' => e = .returned (.slice (some ⟨W.heap.size, 0, none⟩) t.size cap) ∧ w' = w1) := Lib.hid (by
    clear hb1 hR HP HB hrow hmx hcap
    go_enter Try.func18, Try.ntmps18
    go_wp2
    go_ret
    exact ⟨rfl, rfl⟩)
  clear hcv hrow hcap hmx hb1 hR
  go_enter Try.func12, Try.ntmps12
  go_wp2_with (first | (go_at_call 18; refine HCV.out.mono ?_; rintro e w' ⟨rfl, hw⟩; subst hw) | (go_at_call 17; refine HP.out.mono ?_; rintro e w2 ⟨rfl, hd⟩; have HD := Lib.hid hd; clear hd) | fail)
  go_ret
  exact ⟨rfl, HB.out.trans (HD.out.below.mono HB.out.size)⟩

set_option maxHeartbeats 1000000 in
set_option maxRecDepth 100000 in
theorem gjvalid_walk {t : ByteArray} (hs : t.size ≤ 2147483647) {T : JT} (hT : JText t.data.toList T) (W : World) :
    Calls Try.prog 6 #[.string t] W (BPost W) := by
  have HP := Lib.hid (valid_walk hs hT W)
  go_enter Try.func6, Try.ntmps6
  go_wp2_with (first | (go_at_call 12; refine HP.out.mono ?_; rintro e w2 ⟨rfl, hb⟩; have HB := Lib.hid hb; clear hb) | fail)
  go_ret
  exact ⟨rfl, HB.out⟩
end Go.Proofs.Ytdokakhhpcckaaa
