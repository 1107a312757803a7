/- The walk of gjson's validany: where a value of the grammar stands behind blanks, it tells the place behind it. Condition: the text takes at most 2^31 - 1 bytes. -/
import Derived.Test.YtdokakhhpcckaaaVa0
namespace Go.Proofs.Ytdokakhhpcckaaa
open Go.RowKit Go.Proofs.Ytdokakhhpcckaaa.MFnPrSpecAgain Go.Proofs.YtdokakhhpcckaaaW.PrintWords Go.Proofs.YtdokakhhpcckaaaW.PrintLast Go.Proofs.Ytdokakhhpcckaaa.Pure

def VQ (q : Nat) (W : World) : Ending → World → Prop := fun e w' => e = .returned (.tuple #[.int .i64 (q : Int), .bool true]) ∧ Drawn0 W w'
def VAny (t : ByteArray) (B c N : Nat) : Prop := ∀ (p q : Nat) (T : JT) (W : World), Rd t B W → p ≤ t.size → q ≤ t.size → t.size - p ≤ N → JV t.size (wsL (L t p)) (L t q) T → Calls Try.prog 25 #[.slice (some ⟨B, 0, none⟩) t.size c, .int .i64 (p : Int)] W (VQ q W)
def VArr (t : ByteArray) (B c N : Nat) : Prop := ∀ (p q : Nat) (W : World), Rd t B W → p ≤ t.size → q ≤ t.size → t.size - p ≤ N → (wsL (L t p) = 93 :: L t q ∨ ∃ Ts, JEs t.size (wsL (L t p)) (L t q) Ts) → Calls Try.prog 29 #[.slice (some ⟨B, 0, none⟩) t.size c, .int .i64 (p : Int)] W (VQ q W)
def VObj (t : ByteArray) (B c N : Nat) : Prop := ∀ (p q : Nat) (W : World), Rd t B W → p ≤ t.size → q ≤ t.size → t.size - p ≤ N → (wsL (L t p) = 125 :: L t q ∨ ∃ Ns Ts, JMs t.size (wsL (L t p)) (L t q) Ns Ts) → Calls Try.prog 28 #[.slice (some ⟨B, 0, none⟩) t.size c, .int .i64 (p : Int)] W (VQ q W)

theorem ct {W : World} {q : Nat} {i : Nat} {f : Nat} {v : Value} (h : Calls Try.prog f #[v, .int .i64 ((i + 1 : Nat) : Int)] W (VQ q W)) : Calls Try.prog f #[v, .int .i64 ((i : Int) + 1)] W (VQ q W) := by
  have e : ((i + 1 : Nat) : Int) = (i : Int) + 1 := by omega
  rw [← e]
  exact h

theorem c_str {t : ByteArray} {B c i q : Nat} {W : World} (hs : t.size ≤ 2147483647 ∧ t.size ≤ c) (hR : Rd t B W) (hi : i ≤ t.size) (hq : q ≤ t.size) (h : StrIn (L t i) (L t q)) : Calls Try.prog 30 #[.slice (some ⟨B, 0, none⟩) t.size c, .int .i64 (i : Int)] W (VQ q W) := by
  obtain ⟨q', e1, e2, ⟨K, e3⟩⟩ := vstr_f hs.1 i hi h
  obtain rfl := L_inj hq e2.2 e1
  have hc := gjson_validstring.calls K (some ⟨B, 0, none⟩) c (D t) (i : Int) (q : Int) true W (hR.C hs.1) (by rw [D_len]; exact hs.2) (e3 K (Nat.le_refl _))
  rw [D_len] at hc
  exact hc
theorem c_num {t : ByteArray} {B c i q : Nat} {W : World} (hs : t.size ≤ 2147483647 ∧ t.size ≤ c) (hR : Rd t B W) (hi : i ≤ t.size) (hq : q ≤ t.size) (h : numL (L t i) = some (L t q)) : Calls Try.prog 31 #[.slice (some ⟨B, 0, none⟩) t.size c, .int .i64 ((i + 1 : Nat) : Int)] W (VQ q W) := by
  obtain ⟨q', e1, e2, ⟨K, e3⟩⟩ := vnum_f hs.1 i hi h
  obtain rfl := L_inj hq e2.2 e1
  have hc := gjson_validnumber.calls K (some ⟨B, 0, none⟩) c (D t) ((i + 1 : Nat) : Int) (q : Int) true W (hR.C hs.1) (by rw [D_len]; exact hs.2) (e3 K (Nat.le_refl _))
  rw [D_len] at hc
  exact hc
theorem c_tru {t : ByteArray} {B c i q : Nat} {W : World} (hs : t.size ≤ 2147483647 ∧ t.size ≤ c) (hR : Rd t B W) (hq : q ≤ t.size) (h : L t i = 114 :: 117 :: 101 :: L t q) : Calls Try.prog 32 #[.slice (some ⟨B, 0, none⟩) t.size c, .int .i64 (i : Int)] W (VQ q W) := by
  obtain ⟨e1, e2, e3⟩ := vtru hs.1 i h
  obtain rfl := L_inj hq e1 e2
  have hc := gjson_validtrue.calls (some ⟨B, 0, none⟩) c (D t) (i : Int) _ true W (hR.C hs.1) (by rw [D_len]; exact hs.2) e3
  rw [D_len] at hc
  exact hc
theorem c_nul {t : ByteArray} {B c i q : Nat} {W : World} (hs : t.size ≤ 2147483647 ∧ t.size ≤ c) (hR : Rd t B W) (hq : q ≤ t.size) (h : L t i = 117 :: 108 :: 108 :: L t q) : Calls Try.prog 34 #[.slice (some ⟨B, 0, none⟩) t.size c, .int .i64 (i : Int)] W (VQ q W) := by
  obtain ⟨e1, e2, e3⟩ := vnul hs.1 i h
  obtain rfl := L_inj hq e1 e2
  have hc := gjson_validnull.calls (some ⟨B, 0, none⟩) c (D t) (i : Int) _ true W (hR.C hs.1) (by rw [D_len]; exact hs.2) e3
  rw [D_len] at hc
  exact hc
theorem c_fls {t : ByteArray} {B c i q : Nat} {W : World} (hs : t.size ≤ 2147483647 ∧ t.size ≤ c) (hR : Rd t B W) (hq : q ≤ t.size) (h : L t i = 97 :: 108 :: 115 :: 101 :: L t q) : Calls Try.prog 33 #[.slice (some ⟨B, 0, none⟩) t.size c, .int .i64 (i : Int)] W (VQ q W) := by
  obtain ⟨e1, e2, e3⟩ := vfls hs.1 i h
  obtain rfl := L_inj hq e1 e2
  have hc := gjson_validfalse.calls (some ⟨B, 0, none⟩) c (D t) (i : Int) _ true W (hR.C hs.1) (by rw [D_len]; exact hs.2) e3
  rw [D_len] at hc
  exact hc
theorem c_col {t : ByteArray} {B c i q : Nat} {W : World} (hs : t.size ≤ 2147483647 ∧ t.size ≤ c) (hR : Rd t B W) (hi : i ≤ t.size) (hq : q ≤ t.size) (h : wsL (L t i) = 58 :: L t q) : Calls Try.prog 35 #[.slice (some ⟨B, 0, none⟩) t.size c, .int .i64 (i : Int)] W (VQ q W) := by
  obtain ⟨q', e1, e2, ⟨K, e3⟩⟩ := vcolon_f hs.1 _ i rfl hi h
  obtain rfl := L_inj hq e2.2 e1
  have hc := gjson_validcolon.calls K (some ⟨B, 0, none⟩) c (D t) (i : Int) (q : Int) true W (hR.C hs.1) (by rw [D_len]; exact hs.2) (e3 K (Nat.le_refl _))
  rw [D_len] at hc
  exact hc
theorem c_com {t : ByteArray} {B c i : Nat} {W : World} (hs : t.size ≤ 2147483647 ∧ t.size ≤ c) (hR : Rd t B W) (hi : i ≤ t.size) (en x : UInt8) (hx : x = 44 ∨ x = en) {r : List UInt8} (h : wsL (L t i) = x :: r) :
    ∃ m, L t m = x :: r ∧ (i ≤ m ∧ m < t.size) ∧ Calls Try.prog 36 #[.slice (some ⟨B, 0, none⟩) t.size c, .int .i64 (i : Int), .int .u8 (en.toNat : Int)] W (VQ m W) := by
  obtain ⟨m, e1, e2, ⟨K, e3⟩⟩ := vcomma_f hs.1 en x hx _ i rfl hi h
  have hc := gjson_validcomma.calls K (some ⟨B, 0, none⟩) c (D t) (i : Int) (en.toNat : Int) (m : Int) true W (hR.C hs.1) (by rw [D_len]; exact hs.2) (e3 K (Nat.le_refl _))
  rw [D_len] at hc
  exact ⟨m, e1, e2, hc⟩

set_option maxHeartbeats 4000000 in
set_option maxRecDepth 100000 in
theorem any_walk {t : ByteArray} {B c N : Nat} (hs : t.size ≤ 2147483647 ∧ t.size ≤ c ∧ c ≤ 9223372036854775807) (hA : VArr t B c N) (hO : VObj t B c N) : VAny t B c (N + 1) := by
  intro p q T W hR hp hq hN hJ
  have HR := Lib.hid hR
  have HA := Lib.hid hA
  have HO := Lib.hid hO
  have HJ := Lib.hid hJ
  have hsc : t.size ≤ 2147483647 ∧ t.size ≤ c := ⟨hs.1, hs.2.1⟩
  clear hR hA hO hJ
  go_enter Try.func25, Try.ntmps25
  go_wp2
  go_loopg [1] (t.size + 1) (fun g v1 wc => ∃ i : Nat, v1 = .int .i64 (i : Int) ∧ (p ≤ i ∧ i ≤ t.size ∧ t.size < i + g) ∧ Hid (wsL (L t i) = wsL (L t p)) ∧ W = wc)
  case atStart => exact ⟨p, by go_num, by omega, Lib.hid rfl, rfl⟩
  case round =>
    obtain ⟨i, rfl, hI, HE, rfl⟩ := hrel
    cases gk with
    | zero => omega
    | succ j =>
    have hJ := HJ.out
    rw [← HE.out] at hJ
    have hne : L t i ≠ [] := by
      intro e
      rw [e] at hJ
      obtain ⟨s, e1, e2⟩ := jv_after hJ
      have := congrArg List.length e1
      rw [List.length_append] at this
      simp [wsL] at this
      omega
    obtain ⟨x, l, hl⟩ := List.exists_cons_of_ne_nil hne
    obtain ⟨hlt, _, hr⟩ := L_hv hl
    have hcell := HR.out.lit hl
    have hlt2 : i < t.size ∧ True := ⟨hlt, trivial⟩
    have bi : decide ((i : Int) < (t.size : Int)) = true := decide_eq_true (by omega)
    have HL := Lib.hid hl
    have HRR := Lib.hid hr
    clear hne
    by_cases hb : blk x = true
    · have H2 : Hid (wsL (L t (i + 1)) = wsL (L t p)) := Lib.hid (by rw [← HE.out, hl, wsL_cons, if_pos hb, hr])
      clear hl hr hJ
      rcases blk_four hb with e | e | e | e
      · subst e
        have hcell : W.cell? ⟨B, i, none⟩ = some (.int .u8 32) := hcell
        clear hb
        go_wp2
        go_roundg j
        case rel => exact ⟨i + 1, by go_num, by omega, H2, rfl⟩
        case measure => omega
      · subst e
        have hcell : W.cell? ⟨B, i, none⟩ = some (.int .u8 9) := hcell
        clear hb
        go_wp2
        go_roundg j
        case rel => exact ⟨i + 1, by go_num, by omega, H2, rfl⟩
        case measure => omega
      · subst e
        have hcell : W.cell? ⟨B, i, none⟩ = some (.int .u8 10) := hcell
        clear hb
        go_wp2
        go_roundg j
        case rel => exact ⟨i + 1, by go_num, by omega, H2, rfl⟩
        case measure => omega
      · subst e
        have hcell : W.cell? ⟨B, i, none⟩ = some (.int .u8 13) := hcell
        clear hb
        go_wp2
        go_roundg j
        case rel => exact ⟨i + 1, by go_num, by omega, H2, rfl⟩
        case measure => omega
    · have hb : blk x = false := by simpa using hb
      rw [hl, wsL_of hb] at hJ
      generalize hrr : L t q = r at hJ
      cases hJ with
      | str _ _ h =>
        subst hrr
        have hcell : W.cell? ⟨B, i, none⟩ = some (.int .u8 34) := hcell
        have HC := Lib.hid (ct (c_str (i := i + 1) hsc HR.out (by omega) hq (by rw [← hr]; exact h)))
        clear hb hl hr
        go_wp2_with (first | (go_at_call 30; refine HC.out.mono ?_; rintro e w2 ⟨rfl, hd⟩) | fail)
        go_ret2
        exact ⟨rfl, hd⟩
      | num _ _ _ h1 h2 =>
        subst hrr
        have hn : numL (L t i) = some (L t q) := by rw [hl]; exact h2
        rcases (show x = 45 ∨ x = 48 ∨ x = 49 ∨ x = 50 ∨ x = 51 ∨ x = 52 ∨ x = 53 ∨ x = 54 ∨ x = 55 ∨ x = 56 ∨ x = 57 from h1.elim .inl (fun h => .inr (dgt_ten h))) with e | e | e | e | e | e | e | e | e | e | e
        · subst e
          have hcell : W.cell? ⟨B, i, none⟩ = some (.int .u8 45) := hcell
          have HC := Lib.hid (ct (c_num hsc HR.out (by omega) hq hn))
          clear hb hl hr h1 h2 hn
          go_wp2_with (first | (go_at_call 31; refine HC.out.mono ?_; rintro e w2 ⟨rfl, hd⟩) | fail)
          go_ret2
          exact ⟨rfl, hd⟩
        · subst e
          have hcell : W.cell? ⟨B, i, none⟩ = some (.int .u8 48) := hcell
          have HC := Lib.hid (ct (c_num hsc HR.out (by omega) hq hn))
          clear hb hl hr h1 h2 hn
          go_wp2_with (first | (go_at_call 31; refine HC.out.mono ?_; rintro e w2 ⟨rfl, hd⟩) | fail)
          go_ret2
          exact ⟨rfl, hd⟩
        · subst e
          have hcell : W.cell? ⟨B, i, none⟩ = some (.int .u8 49) := hcell
          have HC := Lib.hid (ct (c_num hsc HR.out (by omega) hq hn))
          clear hb hl hr h1 h2 hn
          go_wp2_with (first | (go_at_call 31; refine HC.out.mono ?_; rintro e w2 ⟨rfl, hd⟩) | fail)
          go_ret2
          exact ⟨rfl, hd⟩
        · subst e
          have hcell : W.cell? ⟨B, i, none⟩ = some (.int .u8 50) := hcell
          have HC := Lib.hid (ct (c_num hsc HR.out (by omega) hq hn))
          clear hb hl hr h1 h2 hn
          go_wp2_with (first | (go_at_call 31; refine HC.out.mono ?_; rintro e w2 ⟨rfl, hd⟩) | fail)
          go_ret2
          exact ⟨rfl, hd⟩
        · subst e
          have hcell : W.cell? ⟨B, i, none⟩ = some (.int .u8 51) := hcell
          have HC := Lib.hid (ct (c_num hsc HR.out (by omega) hq hn))
          clear hb hl hr h1 h2 hn
          go_wp2_with (first | (go_at_call 31; refine HC.out.mono ?_; rintro e w2 ⟨rfl, hd⟩) | fail)
          go_ret2
          exact ⟨rfl, hd⟩
        · subst e
          have hcell : W.cell? ⟨B, i, none⟩ = some (.int .u8 52) := hcell
          have HC := Lib.hid (ct (c_num hsc HR.out (by omega) hq hn))
          clear hb hl hr h1 h2 hn
          go_wp2_with (first | (go_at_call 31; refine HC.out.mono ?_; rintro e w2 ⟨rfl, hd⟩) | fail)
          go_ret2
          exact ⟨rfl, hd⟩
        · subst e
          have hcell : W.cell? ⟨B, i, none⟩ = some (.int .u8 53) := hcell
          have HC := Lib.hid (ct (c_num hsc HR.out (by omega) hq hn))
          clear hb hl hr h1 h2 hn
          go_wp2_with (first | (go_at_call 31; refine HC.out.mono ?_; rintro e w2 ⟨rfl, hd⟩) | fail)
          go_ret2
          exact ⟨rfl, hd⟩
        · subst e
          have hcell : W.cell? ⟨B, i, none⟩ = some (.int .u8 54) := hcell
          have HC := Lib.hid (ct (c_num hsc HR.out (by omega) hq hn))
          clear hb hl hr h1 h2 hn
          go_wp2_with (first | (go_at_call 31; refine HC.out.mono ?_; rintro e w2 ⟨rfl, hd⟩) | fail)
          go_ret2
          exact ⟨rfl, hd⟩
        · subst e
          have hcell : W.cell? ⟨B, i, none⟩ = some (.int .u8 55) := hcell
          have HC := Lib.hid (ct (c_num hsc HR.out (by omega) hq hn))
          clear hb hl hr h1 h2 hn
          go_wp2_with (first | (go_at_call 31; refine HC.out.mono ?_; rintro e w2 ⟨rfl, hd⟩) | fail)
          go_ret2
          exact ⟨rfl, hd⟩
        · subst e
          have hcell : W.cell? ⟨B, i, none⟩ = some (.int .u8 56) := hcell
          have HC := Lib.hid (ct (c_num hsc HR.out (by omega) hq hn))
          clear hb hl hr h1 h2 hn
          go_wp2_with (first | (go_at_call 31; refine HC.out.mono ?_; rintro e w2 ⟨rfl, hd⟩) | fail)
          go_ret2
          exact ⟨rfl, hd⟩
        · subst e
          have hcell : W.cell? ⟨B, i, none⟩ = some (.int .u8 57) := hcell
          have HC := Lib.hid (ct (c_num hsc HR.out (by omega) hq hn))
          clear hb hl hr h1 h2 hn
          go_wp2_with (first | (go_at_call 31; refine HC.out.mono ?_; rintro e w2 ⟨rfl, hd⟩) | fail)
          go_ret2
          exact ⟨rfl, hd⟩
      | nul _ =>
        subst hrr
        have hcell : W.cell? ⟨B, i, none⟩ = some (.int .u8 110) := hcell
        have HC := Lib.hid (ct (c_nul hsc HR.out hq hr.symm))
        clear hb hl hr
        go_wp2_with (first | (go_at_call 34; refine HC.out.mono ?_; rintro e w2 ⟨rfl, hd⟩) | fail)
        go_ret2
        exact ⟨rfl, hd⟩
      | fls _ =>
        subst hrr
        have hcell : W.cell? ⟨B, i, none⟩ = some (.int .u8 102) := hcell
        have HC := Lib.hid (ct (c_fls hsc HR.out hq hr.symm))
        clear hb hl hr
        go_wp2_with (first | (go_at_call 33; refine HC.out.mono ?_; rintro e w2 ⟨rfl, hd⟩) | fail)
        go_ret2
        exact ⟨rfl, hd⟩
      | tru _ =>
        subst hrr
        have hcell : W.cell? ⟨B, i, none⟩ = some (.int .u8 116) := hcell
        have HC := Lib.hid (ct (c_tru hsc HR.out hq hr.symm))
        clear hb hl hr
        go_wp2_with (first | (go_at_call 32; refine HC.out.mono ?_; rintro e w2 ⟨rfl, hd⟩) | fail)
        go_ret2
        exact ⟨rfl, hd⟩
      | arr0 _ _ h =>
        subst hrr
        have hcell : W.cell? ⟨B, i, none⟩ = some (.int .u8 91) := hcell
        have HC := Lib.hid (ct (HA.out (i + 1) q W HR.out (by omega) hq (by omega) (.inl (by rw [← hr]; exact h))))
        clear hb hl hr
        go_wp2_with (first | (go_at_call 29; refine HC.out.mono ?_; rintro e w2 ⟨rfl, hd⟩) | fail)
        go_ret2
        exact ⟨rfl, hd⟩
      | arr _ _ ks h =>
        subst hrr
        have hcell : W.cell? ⟨B, i, none⟩ = some (.int .u8 91) := hcell
        have HC := Lib.hid (ct (HA.out (i + 1) q W HR.out (by omega) hq (by omega) (.inr ⟨ks, by rw [← hr]; exact h⟩)))
        clear hb hl hr
        go_wp2_with (first | (go_at_call 29; refine HC.out.mono ?_; rintro e w2 ⟨rfl, hd⟩) | fail)
        go_ret2
        exact ⟨rfl, hd⟩
      | obj0 _ _ h =>
        subst hrr
        have hcell : W.cell? ⟨B, i, none⟩ = some (.int .u8 123) := hcell
        have HC := Lib.hid (ct (HO.out (i + 1) q W HR.out (by omega) hq (by omega) (.inl (by rw [← hr]; exact h))))
        clear hb hl hr
        go_wp2_with (first | (go_at_call 28; refine HC.out.mono ?_; rintro e w2 ⟨rfl, hd⟩) | fail)
        go_ret2
        exact ⟨rfl, hd⟩
      | obj _ _ nms ks h =>
        subst hrr
        have hcell : W.cell? ⟨B, i, none⟩ = some (.int .u8 123) := hcell
        have HC := Lib.hid (ct (HO.out (i + 1) q W HR.out (by omega) hq (by omega) (.inr ⟨nms, ks, by rw [← hr]; exact h⟩)))
        clear hb hl hr
        go_wp2_with (first | (go_at_call 28; refine HC.out.mono ?_; rintro e w2 ⟨rfl, hd⟩) | fail)
        go_ret2
        exact ⟨rfl, hd⟩
end Go.Proofs.Ytdokakhhpcckaaa
