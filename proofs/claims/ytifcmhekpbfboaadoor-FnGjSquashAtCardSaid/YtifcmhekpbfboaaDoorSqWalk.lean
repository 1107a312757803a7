/- The walk of gjson's parseSquash, where the bracket closes. Conditions: the text takes at most 2^47 - 4096 bytes; the table of marks holds what its initialiser lays. -/
import Derived.Test.YtifcmhekpbfboaaDoorSqPlain
namespace Go.Proofs.YtifcmhekpbfboaaDoor
open Go.RowKit

theorem wp_scope_labels3 {P : Program} {a : Act} {w : World} {Q : Exit → Act → World → Prop} {c : Code} (J : Nat → Act → World → Prop) (μ : Nat → Act → World → Nat)
    (pass : ∀ l a w, J l a w → ∃ c2, findLabel c l = some (Code.seq .skip c2) ∧ ((∀ l' a' w' c3, J l' a' w' → μ l' a' w' < μ l a w → findLabel c l' = some (Code.seq .skip c3) → c3.wp P (jumpsTo (fun l2 a2 w2 => J l2 a2 w2 ∧ μ l2 a2 w2 < μ l a w) Q) a' w') →
      c2.wp P (jumpsTo (fun l' a' w' => J l' a' w' ∧ μ l' a' w' < μ l a w) Q) a w))
    (first : (∀ l a w c2, J l a w → findLabel c l = some (Code.seq .skip c2) → c2.wp P (jumpsTo J Q) a w) → c.wp P (jumpsTo J Q) a w) : (Code.scope c).wp P Q a w := by
  have key : ∀ n l a w, μ l a w = n → J l a w → ∃ c2, findLabel c l = some (Code.seq .skip c2) ∧ c2.wp P (jumpsTo (fun l' a' w' => J l' a' w' ∧ μ l' a' w' < n) Q) a w := by
    intro n
    induction n using Nat.strongRecOn with
    | _ n ih =>
      intro l a w hn hJ
      obtain ⟨rest, hf, hp⟩ := pass l a w hJ
      rw [hn] at hp
      refine ⟨rest, hf, hp fun l' a' w' rest' hJ' hlt hf' => ?_⟩
      obtain ⟨r2, hf2, hw2⟩ := ih _ hlt l' a' w' rfl hJ'
      obtain rfl : rest' = r2 := by rw [hf'] at hf2; simpa using hf2
      refine wp_mono hw2 fun e a w h => ?_
      cases e <;> simp only [jumpsTo] at h ⊢ <;> first | exact h | exact ⟨h.1, by omega⟩
  refine wp_scope_labels J μ (first fun l a w rest hJ hf => ?_) fun l a w hJ => ?_
  · obtain ⟨r2, hf2, hw2⟩ := key _ l a w rfl hJ
    obtain rfl : rest = r2 := by rw [hf] at hf2; simpa using hf2
    refine wp_mono hw2 fun e a w h => ?_
    cases e <;> simp only [jumpsTo] at h ⊢ <;> first | exact h | exact h.1
  · obtain ⟨r2, hf2, hw2⟩ := key _ l a w rfl hJ
    exact ⟨_, hf2, wp_seq (wp_skip hw2)⟩

theorem sq_drewN {B : Nat} {a w : World} (h : Below B a w) (n : Nat) : Below B a (w.drewN n) := h.trans ⟨rfl, rfl, rfl, Nat.le_refl _, fun _ _ => rfl⟩

set_option maxRecDepth 100000 in
def FA (t : ByteArray) (s0 i d c : Nat) (q : Nat → Value) : Act := { tmps := #[.string t, .int .i64 ((i : Nat) : Int), undef, undef, q 4, q 5, .int .i64 ((s0 : Nat) : Int), .int .i64 ((d : Nat) : Int), .int .u8 ((c : Nat) : Int), q 9, q 10, q 11, q 12, q 13, .int .i64 ((s0 : Nat) : Int), .int .i64 ((s0 : Nat) : Int), .int .i64 (((s0 : Nat) : Int) + 1), q 17, q 18, q 19, q 20, q 21, q 22, q 23, q 24, q 25, q 26, q 27, q 28, q 29, q 30, q 31, q 32, q 33, q 34, q 35, q 36, q 37, q 38, q 39, q 40, q 41, q 42, q 43, q 44, q 45, q 46, q 47, q 48, q 49, q 50, q 51, q 52, q 53, q 54, q 55, q 56, q 57, q 58, q 59, q 60, q 61, q 62, q 63, q 64, q 65, q 66, q 67, q 68, q 69, q 70, q 71, q 72, q 73, q 74, q 75, q 76, q 77, q 78, q 79, q 80, q 81, q 82, q 83, q 84, q 85, q 86, q 87, q 88, q 89, q 90, q 91, q 92, q 93, q 94, q 95, q 96, q 97, q 98, q 99, q 100, q 101, q 102, q 103, q 104, q 105, q 106, q 107, q 108, q 109, q 110, q 111, q 112, q 113, q 114, q 115, q 116, q 117, q 118, q 119, q 120, q 121, q 122, q 123, q 124, q 125, q 126, q 127, q 128, q 129, q 130, q 131, q 132, q 133, q 134, q 135, q 136, q 137, q 138, q 139, q 140, q 141, q 142, q 143, q 144, q 145, q 146, q 147, q 148, q 149, q 150, q 151, q 152, q 153, q 154, q 155, q 156, q 157, q 158, q 159, q 160, q 161, q 162, q 163, q 164, q 165, q 166, q 167, q 168, q 169, q 170, q 171, q 172, q 173, q 174, q 175, q 176, q 177, q 178, q 179, q 180, q 181, q 182, q 183, q 184, q 185, q 186, q 187, q 188, q 189, q 190, q 191, q 192, q 193, q 194, q 195, q 196, q 197, q 198, q 199, q 200, q 201, q 202, q 203, q 204, q 205, q 206, q 207, q 208, q 209, q 210, q 211, q 212, q 213, q 214, q 215, q 216, q 217, q 218, q 219, q 220, q 221, q 222, q 223, q 224, q 225, undef, undef, undef, undef], defers := [] }
set_option maxRecDepth 100000 in
def FB (t : ByteArray) (s0 s2 i d : Nat) (q : Nat → Value) : Act := { tmps := #[.string t, .int .i64 ((i : Nat) : Int), undef, undef, q 4, q 5, .int .i64 ((s0 : Nat) : Int), .int .i64 ((d : Nat) : Int), q 8, q 9, .int .i64 ((s2 : Nat) : Int), q 11, q 12, q 13, .int .i64 ((s0 : Nat) : Int), .int .i64 ((s0 : Nat) : Int), .int .i64 (((s0 : Nat) : Int) + 1), q 17, q 18, q 19, q 20, q 21, q 22, q 23, q 24, q 25, q 26, q 27, q 28, q 29, q 30, q 31, q 32, q 33, q 34, q 35, q 36, q 37, q 38, q 39, q 40, q 41, q 42, q 43, q 44, q 45, q 46, q 47, q 48, q 49, q 50, q 51, q 52, q 53, q 54, q 55, q 56, q 57, q 58, q 59, q 60, q 61, q 62, q 63, q 64, q 65, q 66, q 67, q 68, q 69, q 70, q 71, q 72, q 73, q 74, q 75, q 76, q 77, q 78, q 79, q 80, q 81, q 82, q 83, q 84, q 85, q 86, q 87, q 88, q 89, q 90, q 91, q 92, q 93, q 94, q 95, q 96, q 97, q 98, q 99, q 100, q 101, q 102, q 103, q 104, q 105, q 106, q 107, q 108, q 109, q 110, q 111, q 112, q 113, q 114, q 115, q 116, q 117, q 118, q 119, q 120, q 121, q 122, q 123, q 124, q 125, q 126, q 127, q 128, q 129, q 130, q 131, q 132, q 133, q 134, q 135, q 136, q 137, q 138, q 139, q 140, q 141, q 142, q 143, q 144, q 145, q 146, q 147, q 148, q 149, q 150, q 151, q 152, q 153, q 154, q 155, q 156, q 157, q 158, q 159, q 160, q 161, q 162, q 163, q 164, q 165, q 166, q 167, q 168, q 169, q 170, q 171, q 172, q 173, q 174, q 175, q 176, q 177, q 178, q 179, q 180, q 181, q 182, q 183, q 184, q 185, q 186, q 187, q 188, q 189, q 190, q 191, q 192, q 193, q 194, q 195, q 196, q 197, q 198, q 199, q 200, q 201, q 202, q 203, q 204, q 205, q 206, q 207, q 208, q 209, q 210, q 211, q 212, q 213, q 214, q 215, q 216, q 217, q 218, q 219, q 220, q 221, q 222, q 223, q 224, q 225, undef, undef, undef, undef], defers := [] }
theorem qA {t : ByteArray} {s0 i d c : Nat} (a : Act) (h : a = FA t s0 i d c (fun n => a.tmps.getD n undef)) : ∃ q, a = FA t s0 i d c q := ⟨_, h⟩
theorem qB {t : ByteArray} {s0 s2 i d : Nat} (a : Act) (h : a = FB t s0 s2 i d (fun n => a.tmps.getD n undef)) : ∃ q, a = FB t s0 s2 i d q := ⟨_, h⟩
def SqA (t : ByteArray) (s0 i0 left : Nat) (w : World) : Nat → Act → World → Prop
  | 0, a, w' => w' = w ∧ ∃ (i d c : Nat), Hid (∃ h : i < t.size, vch t[i] = c) ∧ (c ≠ 0 ∧ i0 ≤ i ∧ 1 ≤ d ∧ d ≤ i) ∧ Hid (sq (t.data.toList.drop i) none d = some left) ∧ ∃ q, a = FA t s0 i d c q
  | _, _, _ => False
def SqB (t : ByteArray) (s0 s2 d left : Nat) (w : World) (l : Nat) (a : Act) (w' : World) : Prop :=
  (l = 1 ∨ l = 2 ∨ l = 3) ∧ w' = w ∧ ∃ (i : Nat), (s2 ≤ i ∧ i ≤ t.size) ∧ Hid (sq (t.data.toList.drop i) (some (fl t s2 i)) d = some left) ∧ Hid (l = 1 → ∃ h : i < t.size, t[i] = 34) ∧ ∃ q, a = FB t s0 s2 i d q
def iAt (a : Act) : Nat := match a.tmps.getD 1 undef with | .int _ n => n.toNat | _ => 0
def muB (t : ByteArray) (l : Nat) (a : Act) (_ : World) : Nat := (t.size - iAt a) * 3 + (if l = 2 then 2 else if l = 1 then 1 else 0)

theorem u8c (c : UInt8) : (0 : Int) ≤ (c.toNat : Int) ∧ (c.toNat : Int) < 256 := ⟨by omega, by have := UInt8.toNat_lt c; omega⟩
theorem vz {n : Nat} (h : n = 0) : ((n : Int) == 0) = true := by subst h; rfl
theorem vnz {n : Nat} (h : n ≠ 0) : ((n : Int) == 0) = false := by rw [beq_eq_false_iff_ne]; omega
theorem cnot {c : UInt8} {n : Nat} (hn : n < 256) (h : c ≠ UInt8.ofNat n) : ((c.toNat : Int) == (n : Int)) = false := by
  rw [beq_eq_false_iff_ne]
  intro e
  exact h (UInt8.toNat_inj.1 (by rw [UInt8.toNat_ofNat']; omega))
theorem ext_get {t : ByteArray} {i k : Nat} (h : i + 8 < t.size) (hk : k < 8) (hx : k < (t.extract i (i + 8)).size) : (t.extract i (i + 8))[k] = t[i + k] := by
  rw [ByteArray.getElem_extract]
def SqPost (t : ByteArray) (s0 left : Nat) (w : World) : Ending → World → Prop := fun e w' => e = .returned (.tuple #[.int .i64 ((t.size - left : Nat) : Int), .string (t.extract s0 (t.size - left))]) ∧ Below w.heap.size w w'

set_option maxHeartbeats 40000000 in
set_option maxRecDepth 100000 in
theorem squash_any (t : ByteArray) (s0 left : Nat) (w : World) (hs : t.size ≤ 140737488351232) (hi0 : s0 < t.size) (hG : GLVch w) (HQ : sq (t.data.toList.drop (s0 + 1)) none 1 = some left) :
    Calls Tryd.prog 31 #[.string t, .int .i64 (s0 : Int)] w (SqPost t s0 left w) := by
  have hT : t.size ≤ 140737488351232 ∧ s0 < t.size := ⟨hs, hi0⟩
  have HS := Lib.hid HQ
  replace hG := Lib.hid hG
  clear HQ hs hi0
  go_enter Tryd.func31, Tryd.ntmps31
  go_wp2
  go_loopg [1, 7] (t.size + 1) (fun g v1 v7 wc => ∃ (i d : Nat), v1 = .int .i64 i ∧ v7 = .int .i64 d ∧ (i ≤ t.size ∧ t.size < i + g ∧ 1 ≤ d ∧ d ≤ i ∧ s0 < i) ∧ Hid (sq (t.data.toList.drop i) none d = some left) ∧ w = wc)
  case atStart => exact ⟨s0 + 1, 1, by go_num, by go_num, by omega, HS, rfl⟩
  case round =>
    clear HS
    obtain ⟨i0, d, rfl, rfl, hN0, HS, rfl⟩ := hrel
    have hN : i0 < t.size ∧ t.size < i0 + gk ∧ 1 ≤ d ∧ d ≤ i0 ∧ s0 < i0 := by
      refine ⟨?_, hN0.2⟩
      rcases Nat.lt_or_ge i0 t.size with h | h
      · exact h
      · have h1 := HS.out
        rw [sq_end h] at h1
        cases h1
    clear hN0
    cases gk with
    | zero => omega
    | succ j =>
    go_wp2
    refine wp_scope_labels3 (SqA t s0 i0 left w) (fun _ _ _ => 0) ?_ ?_
    · intro l a w' hJ
      match l, hJ with
      | 0, hJ =>
        clear HS
        obtain ⟨rfl, i, d, c, HC, hN0, HS, q, rfl⟩ := hJ
        unfold FA
        refine ⟨_, rfl, fun _ => ?_⟩
        obtain ⟨hlt, hvc⟩ := HC.out
        clear HC
        have hN2 : i < t.size ∧ t.size < i + (j + 1) ∧ 1 ≤ d ∧ d ≤ i ∧ s0 < i := ⟨hlt, by omega, hN0.2.2.1, hN0.2.2.2, by omega⟩
        clear hN
        have hN := hN2
        clear hN2
        rcases vch_cases (t[i]'hlt) with h0 | h0 | h0 | h0
        · exact absurd (hvc.symm.trans h0) hN0.1
        · have hc : c = 1 := hvc.symm.trans h0
          have HS2 := HS.out
          rw [sq_close hlt h0] at HS2
          clear hvc HS hN0 h0
          subst hc
          by_cases hd1 : d ≤ 1
          · rw [if_pos hd1] at HS2
            have hdd : d = 1 := by omega
            subst hdd
            have hleft : t.size - left = i + 1 := by
              have := Option.some.inj HS2
              omega
            have HL := Lib.hid hleft
            clear HS2 hleft hd1 hlt
            go_wp2
            go_quiet (fail)
            go_wp2
            simp only [jumpsTo]
            go_ret2
            refine ⟨?_, ?_⟩
            · rw [HL.out]; rfl
            · exact sq_drewN (Below.refl _ _) _
          · rw [if_neg hd1] at HS2
            have HS3 := Lib.hid HS2
            have hd2 : 2 ≤ d ∧ True := ⟨by omega, trivial⟩
            have e1 : ((d : Int) + (1 - 2) == 0) = false := by rw [beq_eq_false_iff_ne]; omega
            have e2 : ((d : Int) - 1 == 0) = false := by rw [beq_eq_false_iff_ne]; omega
            have e3 : ((d : Int) + -1 == 0) = false := by rw [beq_eq_false_iff_ne]; omega
            clear HS2 hd1 hlt
            go_wp2
            simp only [jumpsTo]
            go_wp2
            go_roundg j
            case rel => exact ⟨i + 1, d - 1, by go_num, by go_num, by omega, HS3, rfl⟩
            case measure => omega
        · have hc : c = 2 := hvc.symm.trans h0
          have HS3 := Lib.hid ((sq_quote hlt h0 d).symm.trans HS.out)
          have HP : Hid (∃ h : i < t.size, t[i] = 34) := Lib.hid ⟨hlt, vch_str h0⟩
          clear hvc HS hN0 h0 hlt
          subst hc
          go_wp2
          refine wp_scope_labels3 (SqB t s0 (i + 1) d left w') (muB t) ?_ ?_
          · intro l a w2 hJ
            have hl := hJ.1
            obtain ⟨_, rfl, ib, hNb, HSb, HCb, q, rfl⟩ := hJ
            unfold FB
            rcases hl with rfl | rfl | rfl
            · refine ⟨_, rfl, fun hlow0 => ?_⟩
              have hlow := Lib.hid hlow0
              clear hlow0 HS3
              obtain ⟨p, rfl⟩ : ∃ p, ib = p + 1 := ⟨ib - 1, by omega⟩
              obtain ⟨hib, h34b⟩ := HCb.out rfl
              have hN3 : p + 1 < t.size ∧ i ≤ p := ⟨hib, by omega⟩
              by_cases p92 : t[p]'(Nat.lt_of_succ_lt hN3.1) = 92
              · have b1 : (((t[p]'(Nat.lt_of_succ_lt hN3.1)).toNat : Int) == 92) = true := by rw [p92]; rfl
                clear hib h34b p92
                go_wp2
                go_step3
                (simp only [Exit.then]; refine (‹∀ (a : Act) (w : World), Code.wp _ _ _ a w → _›) _ _ ?_)
                refine hlow.out 3 _ _ _ ?_ ?_ rfl
                · exact ⟨.inr (.inr rfl), rfl, p + 1, hNb, HSb, Lib.hid (fun h => by cases h), qB _ rfl⟩
                · show (t.size - (p + 1)) * 3 + 0 < (t.size - (p + 1)) * 3 + 1
                  omega
              · have b1 : (((t[p]'(Nat.lt_of_succ_lt hN3.1)).toNat : Int) == 92) = false := cnot (n := 92) (by decide) p92
                have hf : fl t (i + 1) (p + 1) = false := fl_not (by omega) p92
                have HS4 := Lib.hid ((sq_out hib h34b hf d).symm.trans HSb.out)
                clear hib h34b p92 hf
                go_wp2
                simp only [jumpsTo]
                go_wp2
                simp only [jumpsTo]
                go_wp2
                go_roundg j
                case rel => exact ⟨p + 2, d, by go_num, by go_num, by omega, HS4, rfl⟩
                case measure => omega
            · refine ⟨_, rfl, fun hlow0 => ?_⟩
              clear hlow0 HS3
              go_wp2
              go_loopg [1] (t.size + 1) (fun g v1 wc => ∃ (i' : Nat), v1 = .int .i64 i' ∧ (i' ≤ t.size ∧ t.size < i' + g ∧ i + 1 ≤ i' ∧ ib ≤ i') ∧ Hid (sq (t.data.toList.drop i') (some (fl t (i + 1) i')) d = some left) ∧ w2 = wc)
              case atStart => exact ⟨ib, rfl, by omega, HSb, rfl⟩
              case round =>
                clear HSb
                obtain ⟨ic, rfl, hNc, HS, rfl⟩ := hrel
                cases gk with
                | zero => omega
                | succ j2 =>
                by_cases h8' : ic + 8 < t.size
                · have e8 : decide ((ic : Int) < (t.size : Int) - 8) = true := decide_eq_true (by omega)
                  have h8 : ic + 8 < t.size ∧ True := ⟨h8', trivial⟩
                  clear h8'
                  have hx8 : (t.extract ic (ic + 8)).size = 8 := by rw [ByteArray.size_extract]; omega
                  have x0 : (t.extract ic (ic + 8))[0]'(by omega) = t[ic + 0]'(by omega) := ext_get h8.1 (by omega) (by omega)
                  by_cases h10 : t[ic + 0]'(by omega) = 34
                  · have b0 : ((((t.extract ic (ic + 8))[0]'(by omega)).toNat : Int) == 34) = true := by rw [x0, h10]; rfl
                    have HC : Hid (∃ h : ic + 0 < t.size, t[ic + 0] = 34) := Lib.hid ⟨by omega, h10⟩
                    clear x0 h10
                    go_wp2
                    go_step3
                    refine ⟨?_, ?_⟩
                    · exact ⟨.inl rfl, rfl, ic + 0, by omega, HS, Lib.hid fun _ => HC.out, qB _ rfl⟩
                    · show (t.size - (ic + 0)) * 3 + 1 < (t.size - ib) * 3 + 2
                      omega
                  · have b0 : ((((t.extract ic (ic + 8))[0]'(by omega)).toNat : Int) == 34) = false := by rw [x0]; exact cnot (n := 34) (by decide) h10
                    have HS0 : Hid (sq (t.data.toList.drop (ic + 1)) (some (fl t (i + 1) (ic + 1))) d = some left) := Lib.hid ((sq_in (i := ic + 0) (by omega) (by omega) (.inl h10) d).symm.trans HS.out)
                    clear x0 h10
                    have x1 : (t.extract ic (ic + 8))[1]'(by omega) = t[ic + 1]'(by omega) := ext_get h8.1 (by omega) (by omega)
                    by_cases h11 : t[ic + 1]'(by omega) = 34
                    · have b1 : ((((t.extract ic (ic + 8))[1]'(by omega)).toNat : Int) == 34) = true := by rw [x1, h11]; rfl
                      have HC : Hid (∃ h : ic + 1 < t.size, t[ic + 1] = 34) := Lib.hid ⟨by omega, h11⟩
                      clear x1 h11
                      go_wp2
                      go_step3
                      refine ⟨?_, ?_⟩
                      · exact ⟨.inl rfl, rfl, ic + 1, by omega, HS0, Lib.hid fun _ => HC.out, qB _ rfl⟩
                      · show (t.size - (ic + 1)) * 3 + 1 < (t.size - ib) * 3 + 2
                        omega
                    · have b1 : ((((t.extract ic (ic + 8))[1]'(by omega)).toNat : Int) == 34) = false := by rw [x1]; exact cnot (n := 34) (by decide) h11
                      have HS1 : Hid (sq (t.data.toList.drop (ic + 2)) (some (fl t (i + 1) (ic + 2))) d = some left) := Lib.hid ((sq_in (i := ic + 1) (by omega) (by omega) (.inl h11) d).symm.trans HS0.out)
                      clear x1 h11
                      have x2 : (t.extract ic (ic + 8))[2]'(by omega) = t[ic + 2]'(by omega) := ext_get h8.1 (by omega) (by omega)
                      by_cases h12 : t[ic + 2]'(by omega) = 34
                      · have b2 : ((((t.extract ic (ic + 8))[2]'(by omega)).toNat : Int) == 34) = true := by rw [x2, h12]; rfl
                        have HC : Hid (∃ h : ic + 2 < t.size, t[ic + 2] = 34) := Lib.hid ⟨by omega, h12⟩
                        clear x2 h12
                        go_wp2
                        go_step3
                        refine ⟨?_, ?_⟩
                        · exact ⟨.inl rfl, rfl, ic + 2, by omega, HS1, Lib.hid fun _ => HC.out, qB _ rfl⟩
                        · show (t.size - (ic + 2)) * 3 + 1 < (t.size - ib) * 3 + 2
                          omega
                      · have b2 : ((((t.extract ic (ic + 8))[2]'(by omega)).toNat : Int) == 34) = false := by rw [x2]; exact cnot (n := 34) (by decide) h12
                        have HS2 : Hid (sq (t.data.toList.drop (ic + 3)) (some (fl t (i + 1) (ic + 3))) d = some left) := Lib.hid ((sq_in (i := ic + 2) (by omega) (by omega) (.inl h12) d).symm.trans HS1.out)
                        clear x2 h12
                        have x3 : (t.extract ic (ic + 8))[3]'(by omega) = t[ic + 3]'(by omega) := ext_get h8.1 (by omega) (by omega)
                        by_cases h13 : t[ic + 3]'(by omega) = 34
                        · have b3 : ((((t.extract ic (ic + 8))[3]'(by omega)).toNat : Int) == 34) = true := by rw [x3, h13]; rfl
                          have HC : Hid (∃ h : ic + 3 < t.size, t[ic + 3] = 34) := Lib.hid ⟨by omega, h13⟩
                          clear x3 h13
                          go_wp2
                          go_step3
                          refine ⟨?_, ?_⟩
                          · exact ⟨.inl rfl, rfl, ic + 3, by omega, HS2, Lib.hid fun _ => HC.out, qB _ rfl⟩
                          · show (t.size - (ic + 3)) * 3 + 1 < (t.size - ib) * 3 + 2
                            omega
                        · have b3 : ((((t.extract ic (ic + 8))[3]'(by omega)).toNat : Int) == 34) = false := by rw [x3]; exact cnot (n := 34) (by decide) h13
                          have HS3 : Hid (sq (t.data.toList.drop (ic + 4)) (some (fl t (i + 1) (ic + 4))) d = some left) := Lib.hid ((sq_in (i := ic + 3) (by omega) (by omega) (.inl h13) d).symm.trans HS2.out)
                          clear x3 h13
                          have x4 : (t.extract ic (ic + 8))[4]'(by omega) = t[ic + 4]'(by omega) := ext_get h8.1 (by omega) (by omega)
                          by_cases h14 : t[ic + 4]'(by omega) = 34
                          · have b4 : ((((t.extract ic (ic + 8))[4]'(by omega)).toNat : Int) == 34) = true := by rw [x4, h14]; rfl
                            have HC : Hid (∃ h : ic + 4 < t.size, t[ic + 4] = 34) := Lib.hid ⟨by omega, h14⟩
                            clear x4 h14
                            go_wp2
                            go_step3
                            refine ⟨?_, ?_⟩
                            · exact ⟨.inl rfl, rfl, ic + 4, by omega, HS3, Lib.hid fun _ => HC.out, qB _ rfl⟩
                            · show (t.size - (ic + 4)) * 3 + 1 < (t.size - ib) * 3 + 2
                              omega
                          · have b4 : ((((t.extract ic (ic + 8))[4]'(by omega)).toNat : Int) == 34) = false := by rw [x4]; exact cnot (n := 34) (by decide) h14
                            have HS4 : Hid (sq (t.data.toList.drop (ic + 5)) (some (fl t (i + 1) (ic + 5))) d = some left) := Lib.hid ((sq_in (i := ic + 4) (by omega) (by omega) (.inl h14) d).symm.trans HS3.out)
                            clear x4 h14
                            have x5 : (t.extract ic (ic + 8))[5]'(by omega) = t[ic + 5]'(by omega) := ext_get h8.1 (by omega) (by omega)
                            by_cases h15 : t[ic + 5]'(by omega) = 34
                            · have b5 : ((((t.extract ic (ic + 8))[5]'(by omega)).toNat : Int) == 34) = true := by rw [x5, h15]; rfl
                              have HC : Hid (∃ h : ic + 5 < t.size, t[ic + 5] = 34) := Lib.hid ⟨by omega, h15⟩
                              clear x5 h15
                              go_wp2
                              go_step3
                              refine ⟨?_, ?_⟩
                              · exact ⟨.inl rfl, rfl, ic + 5, by omega, HS4, Lib.hid fun _ => HC.out, qB _ rfl⟩
                              · show (t.size - (ic + 5)) * 3 + 1 < (t.size - ib) * 3 + 2
                                omega
                            · have b5 : ((((t.extract ic (ic + 8))[5]'(by omega)).toNat : Int) == 34) = false := by rw [x5]; exact cnot (n := 34) (by decide) h15
                              have HS5 : Hid (sq (t.data.toList.drop (ic + 6)) (some (fl t (i + 1) (ic + 6))) d = some left) := Lib.hid ((sq_in (i := ic + 5) (by omega) (by omega) (.inl h15) d).symm.trans HS4.out)
                              clear x5 h15
                              have x6 : (t.extract ic (ic + 8))[6]'(by omega) = t[ic + 6]'(by omega) := ext_get h8.1 (by omega) (by omega)
                              by_cases h16 : t[ic + 6]'(by omega) = 34
                              · have b6 : ((((t.extract ic (ic + 8))[6]'(by omega)).toNat : Int) == 34) = true := by rw [x6, h16]; rfl
                                have HC : Hid (∃ h : ic + 6 < t.size, t[ic + 6] = 34) := Lib.hid ⟨by omega, h16⟩
                                clear x6 h16
                                go_wp2
                                go_step3
                                refine ⟨?_, ?_⟩
                                · exact ⟨.inl rfl, rfl, ic + 6, by omega, HS5, Lib.hid fun _ => HC.out, qB _ rfl⟩
                                · show (t.size - (ic + 6)) * 3 + 1 < (t.size - ib) * 3 + 2
                                  omega
                              · have b6 : ((((t.extract ic (ic + 8))[6]'(by omega)).toNat : Int) == 34) = false := by rw [x6]; exact cnot (n := 34) (by decide) h16
                                have HS6 : Hid (sq (t.data.toList.drop (ic + 7)) (some (fl t (i + 1) (ic + 7))) d = some left) := Lib.hid ((sq_in (i := ic + 6) (by omega) (by omega) (.inl h16) d).symm.trans HS5.out)
                                clear x6 h16
                                have x7 : (t.extract ic (ic + 8))[7]'(by omega) = t[ic + 7]'(by omega) := ext_get h8.1 (by omega) (by omega)
                                by_cases h17 : t[ic + 7]'(by omega) = 34
                                · have b7 : ((((t.extract ic (ic + 8))[7]'(by omega)).toNat : Int) == 34) = true := by rw [x7, h17]; rfl
                                  have HC : Hid (∃ h : ic + 7 < t.size, t[ic + 7] = 34) := Lib.hid ⟨by omega, h17⟩
                                  clear x7 h17
                                  go_wp2
                                  go_step3
                                  refine ⟨?_, ?_⟩
                                  · exact ⟨.inl rfl, rfl, ic + 7, by omega, HS6, Lib.hid fun _ => HC.out, qB _ rfl⟩
                                  · show (t.size - (ic + 7)) * 3 + 1 < (t.size - ib) * 3 + 2
                                    omega
                                · have b7 : ((((t.extract ic (ic + 8))[7]'(by omega)).toNat : Int) == 34) = false := by rw [x7]; exact cnot (n := 34) (by decide) h17
                                  have HS7 : Hid (sq (t.data.toList.drop (ic + 8)) (some (fl t (i + 1) (ic + 8))) d = some left) := Lib.hid ((sq_in (i := ic + 7) (by omega) (by omega) (.inl h17) d).symm.trans HS6.out)
                                  clear x7 h17
                                  go_wp2
                                  go_roundg j2
                                  case rel => exact ⟨ic + 8, by go_num, by omega, HS7, rfl⟩
                                  case measure => omega
                · have e8 : decide ((ic : Int) < (t.size : Int) - 8) = false := decide_eq_false (by omega)
                  clear h8'
                  go_wp2
                  go_step3
                  refine ⟨?_, ?_⟩
                  · exact ⟨.inr (.inr rfl), rfl, ic, by omega, HS, Lib.hid (fun h => by cases h), qB _ rfl⟩
                  · show (t.size - ic) * 3 + 0 < (t.size - ib) * 3 + 2
                    omega
            · refine ⟨_, rfl, fun hlow0 => ?_⟩
              clear hlow0 HS3
              go_wp2
              go_loopg [1] (t.size + 1) (fun g v1 wc => ∃ (i' : Nat), v1 = .int .i64 i' ∧ (i' ≤ t.size ∧ t.size < i' + g ∧ i + 1 ≤ i' ∧ ib ≤ i') ∧ Hid (sq (t.data.toList.drop i') (some (fl t (i + 1) i')) d = some left) ∧ w2 = wc)
              case atStart => exact ⟨ib, rfl, by omega, HSb, rfl⟩
              case round =>
                clear HSb
                obtain ⟨ic, rfl, hNc0, HS, rfl⟩ := hrel
                obtain ⟨p, rfl⟩ : ∃ p, ic = p + 1 := ⟨ic - 1, by omega⟩
                have hNc : p + 1 < t.size ∧ t.size < p + 1 + gk ∧ i ≤ p ∧ ib ≤ p + 1 := by
                  refine ⟨?_, by omega, by omega, by omega⟩
                  rcases Nat.lt_or_ge (p + 1) t.size with h | h
                  · exact h
                  · have h1 := HS.out
                    rw [sq_end h] at h1
                    cases h1
                clear hNc0
                cases gk with
                | zero => omega
                | succ j2 =>
                by_cases h34 : t[p + 1]'hNc.1 = 34
                · have hv : ((t[p + 1]'hNc.1).toNat : Int) = 34 := by rw [h34]; rfl
                  by_cases p92 : t[p]'(Nat.lt_of_succ_lt hNc.1) = 92
                  · have b1 : (((t[p]'(Nat.lt_of_succ_lt hNc.1)).toNat : Int) == 92) = true := by rw [p92]; rfl
                    have hip : i + 1 ≤ p := by
                      rcases Nat.lt_or_ge i p with h | h
                      · exact h
                      · obtain rfl : p = i := by omega
                        obtain ⟨_, h3⟩ := HP.out
                        rw [h3] at p92
                        cases p92
                    obtain ⟨r, rfl⟩ : ∃ r, p = r + 1 := ⟨p - 1, by omega⟩
                    have hNd : i ≤ r ∧ True := ⟨by omega, trivial⟩
                    have HF : Hid (fl t (i + 1) (r + 2) = !fl t (i + 1) (r + 1)) := Lib.hid (fl_yes (i := r + 1) (by omega) (by omega) p92)
                    have H34 : Hid (∃ h : r + 2 < t.size, t[r + 2] = 34) := Lib.hid ⟨hNc.1, h34⟩
                    clear hip p92 h34
                    go_wp2
                    go_loopg [12, 13] (r + 2) (fun g v12 v13 wc => ∃ (x n : Nat), v12 = .int .i64 n ∧ v13 = .int .i64 x ∧ (i ≤ x ∧ x ≤ r ∧ n + x = r ∧ x < g) ∧ Hid (fl t (i + 1) (r + 1) = (fl t (i + 1) (x + 1) != (n % 2 == 1))) ∧ w2 = wc)
                    case atStart => exact ⟨r, 0, by go_num, by go_num, by omega, Lib.hid (by simp), rfl⟩
                    case round =>
                      obtain ⟨x, n, rfl, rfl, hX, HX, rfl⟩ := hrel
                      cases gk with
                      | zero => omega
                      | succ j3 =>
                      by_cases hx' : i < x
                      · have bx : decide ((i : Int) < (x : Int)) = true := decide_eq_true (by omega)
                        have hX2 : x < t.size ∧ i < x := ⟨by omega, hx'⟩
                        have bx2 : (i < x) = True := eq_true hx'
                        clear hx'
                        by_cases x92 : t[x]'hX2.1 = 92
                        · have b92 : (((t[x]'hX2.1).toNat : Int) == 92) = true := by rw [x92]; rfl
                          have b93 : (((t[x]'hX2.1).toNat : Int) != 92) = false := by rw [x92]; rfl
                          obtain ⟨y, rfl⟩ : ∃ y, x = y + 1 := ⟨x - 1, by omega⟩
                          have HX2 : Hid (fl t (i + 1) (r + 1) = (fl t (i + 1) (y + 1) != ((n + 1) % 2 == 1))) := Lib.hid (by
                            rw [HX.out, fl_yes (i := y + 1) (by omega) (by omega) x92]
                            have e : ((n + 1) % 2 == 1) = !(n % 2 == 1) := by rw [Bool.eq_iff_iff]; simp; omega
                            rw [e]
                            cases fl t (i + 1) (y + 1) <;> cases (n % 2 == 1) <;> rfl)
                          clear x92
                          go_wp2
                          go_roundg j3
                          case rel => exact ⟨y, n + 1, by go_num, by go_num, by omega, HX2, rfl⟩
                          case measure => omega
                        · have b92 : (((t[x]'hX2.1).toNat : Int) == 92) = false := cnot (n := 92) (by decide) x92
                          have b93 : (((t[x]'hX2.1).toNat : Int) != 92) = true := by rw [bne, b92]; rfl
                          have HN : Hid (fl t (i + 1) (r + 1) = (n % 2 == 1)) := Lib.hid (by rw [HX.out, fl_not hX2.1 x92]; simp)
                          clear x92
                          by_cases hn' : n % 2 = 0
                          · have bn : ((n : Int).tmod 2 == 0) = true := by rw [Int.tmod_eq_emod_of_nonneg (by omega)]; simp; omega
                            have bn2 : ((n : Int) % 2 == 0) = true := by simp; omega
                            have hfl : fl t (i + 1) (r + 2) = true := by rw [HF.out, HN.out]; simp; omega
                            obtain ⟨q34, q35⟩ := H34.out
                            have HS5 := Lib.hid ((sq_in (s2 := i + 1) (i := r + 2) q34 (by omega) (.inr hfl) d).symm.trans HS.out)
                            clear hn' hfl q35 q34
                            go_wp2
                            go_step3
                            refine ⟨?_, ?_⟩
                            · exact ⟨.inr (.inl rfl), rfl, r + 3, by omega, HS5, Lib.hid (fun h => by cases h), qB _ rfl⟩
                            · show (t.size - (r + 3)) * 3 + 2 < (t.size - ib) * 3 + 0
                              omega
                          · have bn : ((n : Int).tmod 2 == 0) = false := by rw [Int.tmod_eq_emod_of_nonneg (by omega)]; simp; omega
                            have bn2 : ((n : Int) % 2 == 0) = false := by simp; omega
                            have hfl : fl t (i + 1) (r + 2) = false := by rw [HF.out, HN.out]; simp; omega
                            obtain ⟨q34, q35⟩ := H34.out
                            have HS5 := Lib.hid ((sq_out q34 q35 hfl d).symm.trans HS.out)
                            clear hn' hfl q35 q34
                            go_wp2
                            simp only [jumpsTo]
                            go_wp2
                            simp only [jumpsTo]
                            go_wp2
                            go_roundg j
                            case rel => exact ⟨r + 3, d, by go_num, by go_num, by omega, HS5, rfl⟩
                            case measure => omega
                      · have bx : decide ((i : Int) < (x : Int)) = false := decide_eq_false (by omega)
                        have bx2 : (i < x) = False := eq_false hx'
                        have HN : Hid (fl t (i + 1) (r + 1) = (n % 2 == 1)) := Lib.hid (by
                          obtain rfl : x = i := by omega
                          rw [HX.out, fl_low (Nat.le_refl _)]
                          simp)
                        clear hx'
                        by_cases hn' : n % 2 = 0
                        · have bn : ((n : Int).tmod 2 == 0) = true := by rw [Int.tmod_eq_emod_of_nonneg (by omega)]; simp; omega
                          have bn2 : ((n : Int) % 2 == 0) = true := by simp; omega
                          have hfl : fl t (i + 1) (r + 2) = true := by rw [HF.out, HN.out]; simp; omega
                          obtain ⟨q34, q35⟩ := H34.out
                          have HS5 := Lib.hid ((sq_in (s2 := i + 1) (i := r + 2) q34 (by omega) (.inr hfl) d).symm.trans HS.out)
                          clear hn' hfl q35 q34
                          go_wp2
                          go_step3
                          refine ⟨?_, ?_⟩
                          · exact ⟨.inr (.inl rfl), rfl, r + 3, by omega, HS5, Lib.hid (fun h => by cases h), qB _ rfl⟩
                          · show (t.size - (r + 3)) * 3 + 2 < (t.size - ib) * 3 + 0
                            omega
                        · have bn : ((n : Int).tmod 2 == 0) = false := by rw [Int.tmod_eq_emod_of_nonneg (by omega)]; simp; omega
                          have bn2 : ((n : Int) % 2 == 0) = false := by simp; omega
                          have hfl : fl t (i + 1) (r + 2) = false := by rw [HF.out, HN.out]; simp; omega
                          obtain ⟨q34, q35⟩ := H34.out
                          have HS5 := Lib.hid ((sq_out q34 q35 hfl d).symm.trans HS.out)
                          clear hn' hfl q35 q34
                          go_wp2
                          simp only [jumpsTo]
                          go_wp2
                          simp only [jumpsTo]
                          go_wp2
                          go_roundg j
                          case rel => exact ⟨r + 3, d, by go_num, by go_num, by omega, HS5, rfl⟩
                          case measure => omega
                  · have b1 : (((t[p]'(Nat.lt_of_succ_lt hNc.1)).toNat : Int) == 92) = false := cnot (n := 92) (by decide) p92
                    have hf : fl t (i + 1) (p + 1) = false := fl_not (Nat.lt_of_succ_lt hNc.1) p92
                    have HS4 := Lib.hid ((sq_out hNc.1 h34 hf d).symm.trans HS.out)
                    clear h34 p92 hf
                    go_wp2
                    simp only [jumpsTo]
                    go_wp2
                    simp only [jumpsTo]
                    go_wp2
                    go_roundg j
                    case rel => exact ⟨p + 2, d, by go_num, by go_num, by omega, HS4, rfl⟩
                    case measure => omega
                · have b1 : (((t[p + 1]'hNc.1).toNat : Int) == 34) = false := cnot (n := 34) (by decide) h34
                  have HS4 := Lib.hid ((sq_in (s2 := i + 1) hNc.1 (by omega) (.inl h34) d).symm.trans HS.out)
                  clear h34
                  by_cases h92 : 92 < (t[p + 1]'hNc.1).toNat
                  · have b2 : decide (92 < ((t[p + 1]'hNc.1).toNat : Int)) = true := decide_eq_true (by omega)
                    clear h92
                    go_wp2
                    go_roundg j2
                    case rel => exact ⟨p + 2, by go_num, by omega, HS4, rfl⟩
                    case measure => omega
                  · have b2 : decide (92 < ((t[p + 1]'hNc.1).toNat : Int)) = false := decide_eq_false (by omega)
                    clear h92
                    go_wp2
                    go_roundg j2
                    case rel => exact ⟨p + 2, by go_num, by omega, HS4, rfl⟩
                    case measure => omega
          · intro hfirst0
            have hfirst := Lib.hid hfirst0
            clear hfirst0
            go_wp2
            go_step3
            (simp only [Exit.then]; refine (‹∀ (a : Act) (w : World), Code.wp _ _ _ a w → _›) _ _ ?_)
            refine hfirst.out 2 _ _ _ ?_ rfl
            exact ⟨.inr (.inl rfl), rfl, i + 1, by omega, HS3, Lib.hid (fun h => by cases h), qB _ rfl⟩
        · have hc : c = 3 := hvc.symm.trans h0
          have HS2 := HS.out
          rw [sq_open hlt h0] at HS2
          have HS3 := Lib.hid HS2
          have e1 : ((d : Int) + (3 - 2) == 0) = false := by rw [beq_eq_false_iff_ne]; omega
          have e2 : ((d : Int) + 1 == 0) = false := by rw [beq_eq_false_iff_ne]; omega
          clear hvc HS HS2 hN0 h0 hlt
          subst hc
          go_wp2
          simp only [jumpsTo]
          go_wp2
          go_roundg j
          case rel => exact ⟨i + 1, d + 1, by go_num, by go_num, by omega, HS3, rfl⟩
          case measure => omega
    · intro hfirst0
      have hfirst := Lib.hid hfirst0
      clear hfirst0
      go_wp2
      go_loopg [1] (t.size + 1) (fun g v1 wc => ∃ (i : Nat), v1 = .int .i64 i ∧ (i < t.size ∧ t.size < i + g ∧ 1 ≤ d ∧ d ≤ i ∧ i0 ≤ i) ∧ Hid (sq (t.data.toList.drop i) none d = some left) ∧ w = wc)
      case atStart => exact ⟨i0, rfl, by omega, HS, rfl⟩
      case round =>
        have hNo := hN
        clear hN HS
        obtain ⟨i, rfl, hN, HS, rfl⟩ := hrel
        cases gk with
        | zero => omega
        | succ j2 =>
        by_cases h8' : i + 8 < t.size
        · have e8 : decide ((i : Int) < (t.size : Int) - 8) = true := decide_eq_true (by omega)
          have h8 : i + 8 < t.size ∧ True := ⟨h8', trivial⟩
          clear h8'
          have hx8 : (t.extract i (i + 8)).size = 8 := by rw [ByteArray.size_extract]; omega
          have x0 : (t.extract i (i + 8))[0]'(by omega) = t[i + 0]'(by omega) := ext_get h8.1 (by omega) (by omega)
          obtain ⟨c0, hc0⟩ : ∃ c, vch (t[i + 0]'(by omega)) = c := ⟨_, rfl⟩
          have z0 : w.cell? ⟨3, ((t.extract i (i + 8))[0]'(by omega)).toNat, none⟩ = some (.int .u8 (c0 : Int)) := by rw [x0, ← hc0]; exact hG.out _
          have y0 := u8c ((t.extract i (i + 8))[0]'(by omega))
          have HC0 := Lib.hid hc0
          have x1 : (t.extract i (i + 8))[1]'(by omega) = t[i + 1]'(by omega) := ext_get h8.1 (by omega) (by omega)
          obtain ⟨c1, hc1⟩ : ∃ c, vch (t[i + 1]'(by omega)) = c := ⟨_, rfl⟩
          have z1 : w.cell? ⟨3, ((t.extract i (i + 8))[1]'(by omega)).toNat, none⟩ = some (.int .u8 (c1 : Int)) := by rw [x1, ← hc1]; exact hG.out _
          have y1 := u8c ((t.extract i (i + 8))[1]'(by omega))
          have HC1 := Lib.hid hc1
          have x2 : (t.extract i (i + 8))[2]'(by omega) = t[i + 2]'(by omega) := ext_get h8.1 (by omega) (by omega)
          obtain ⟨c2, hc2⟩ : ∃ c, vch (t[i + 2]'(by omega)) = c := ⟨_, rfl⟩
          have z2 : w.cell? ⟨3, ((t.extract i (i + 8))[2]'(by omega)).toNat, none⟩ = some (.int .u8 (c2 : Int)) := by rw [x2, ← hc2]; exact hG.out _
          have y2 := u8c ((t.extract i (i + 8))[2]'(by omega))
          have HC2 := Lib.hid hc2
          have x3 : (t.extract i (i + 8))[3]'(by omega) = t[i + 3]'(by omega) := ext_get h8.1 (by omega) (by omega)
          obtain ⟨c3, hc3⟩ : ∃ c, vch (t[i + 3]'(by omega)) = c := ⟨_, rfl⟩
          have z3 : w.cell? ⟨3, ((t.extract i (i + 8))[3]'(by omega)).toNat, none⟩ = some (.int .u8 (c3 : Int)) := by rw [x3, ← hc3]; exact hG.out _
          have y3 := u8c ((t.extract i (i + 8))[3]'(by omega))
          have HC3 := Lib.hid hc3
          have x4 : (t.extract i (i + 8))[4]'(by omega) = t[i + 4]'(by omega) := ext_get h8.1 (by omega) (by omega)
          obtain ⟨c4, hc4⟩ : ∃ c, vch (t[i + 4]'(by omega)) = c := ⟨_, rfl⟩
          have z4 : w.cell? ⟨3, ((t.extract i (i + 8))[4]'(by omega)).toNat, none⟩ = some (.int .u8 (c4 : Int)) := by rw [x4, ← hc4]; exact hG.out _
          have y4 := u8c ((t.extract i (i + 8))[4]'(by omega))
          have HC4 := Lib.hid hc4
          have x5 : (t.extract i (i + 8))[5]'(by omega) = t[i + 5]'(by omega) := ext_get h8.1 (by omega) (by omega)
          obtain ⟨c5, hc5⟩ : ∃ c, vch (t[i + 5]'(by omega)) = c := ⟨_, rfl⟩
          have z5 : w.cell? ⟨3, ((t.extract i (i + 8))[5]'(by omega)).toNat, none⟩ = some (.int .u8 (c5 : Int)) := by rw [x5, ← hc5]; exact hG.out _
          have y5 := u8c ((t.extract i (i + 8))[5]'(by omega))
          have HC5 := Lib.hid hc5
          have x6 : (t.extract i (i + 8))[6]'(by omega) = t[i + 6]'(by omega) := ext_get h8.1 (by omega) (by omega)
          obtain ⟨c6, hc6⟩ : ∃ c, vch (t[i + 6]'(by omega)) = c := ⟨_, rfl⟩
          have z6 : w.cell? ⟨3, ((t.extract i (i + 8))[6]'(by omega)).toNat, none⟩ = some (.int .u8 (c6 : Int)) := by rw [x6, ← hc6]; exact hG.out _
          have y6 := u8c ((t.extract i (i + 8))[6]'(by omega))
          have HC6 := Lib.hid hc6
          have x7 : (t.extract i (i + 8))[7]'(by omega) = t[i + 7]'(by omega) := ext_get h8.1 (by omega) (by omega)
          obtain ⟨c7, hc7⟩ : ∃ c, vch (t[i + 7]'(by omega)) = c := ⟨_, rfl⟩
          have z7 : w.cell? ⟨3, ((t.extract i (i + 8))[7]'(by omega)).toNat, none⟩ = some (.int .u8 (c7 : Int)) := by rw [x7, ← hc7]; exact hG.out _
          have y7 := u8c ((t.extract i (i + 8))[7]'(by omega))
          have HC7 := Lib.hid hc7
          clear x0 hc0 x1 hc1 x2 hc2 x3 hc3 x4 hc4 x5 hc5 x6 hc6 x7 hc7
          by_cases h10 : c0 = 0
          · have b0 := vz h10
            have HS0 : Hid (sq (t.data.toList.drop (i + 1)) none d = some left) := Lib.hid ((sq_plain (i := i + 0) (by omega) (HC0.out.trans h10) d).symm.trans HS.out)
            clear h10
            by_cases h11 : c1 = 0
            · have b1 := vz h11
              have HS1 : Hid (sq (t.data.toList.drop (i + 2)) none d = some left) := Lib.hid ((sq_plain (i := i + 1) (by omega) (HC1.out.trans h11) d).symm.trans HS0.out)
              clear h11
              by_cases h12 : c2 = 0
              · have b2 := vz h12
                have HS2 : Hid (sq (t.data.toList.drop (i + 3)) none d = some left) := Lib.hid ((sq_plain (i := i + 2) (by omega) (HC2.out.trans h12) d).symm.trans HS1.out)
                clear h12
                by_cases h13 : c3 = 0
                · have b3 := vz h13
                  have HS3 : Hid (sq (t.data.toList.drop (i + 4)) none d = some left) := Lib.hid ((sq_plain (i := i + 3) (by omega) (HC3.out.trans h13) d).symm.trans HS2.out)
                  clear h13
                  by_cases h14 : c4 = 0
                  · have b4 := vz h14
                    have HS4 : Hid (sq (t.data.toList.drop (i + 5)) none d = some left) := Lib.hid ((sq_plain (i := i + 4) (by omega) (HC4.out.trans h14) d).symm.trans HS3.out)
                    clear h14
                    by_cases h15 : c5 = 0
                    · have b5 := vz h15
                      have HS5 : Hid (sq (t.data.toList.drop (i + 6)) none d = some left) := Lib.hid ((sq_plain (i := i + 5) (by omega) (HC5.out.trans h15) d).symm.trans HS4.out)
                      clear h15
                      by_cases h16 : c6 = 0
                      · have b6 := vz h16
                        have HS6 : Hid (sq (t.data.toList.drop (i + 7)) none d = some left) := Lib.hid ((sq_plain (i := i + 6) (by omega) (HC6.out.trans h16) d).symm.trans HS5.out)
                        clear h16
                        by_cases h17 : c7 = 0
                        · have b7 := vz h17
                          have HS7 : Hid (sq (t.data.toList.drop (i + 8)) none d = some left) := Lib.hid ((sq_plain (i := i + 7) (by omega) (HC7.out.trans h17) d).symm.trans HS6.out)
                          clear h17
                          go_wp2
                          go_roundg j2
                          case rel => exact ⟨i + 8, by go_num, by omega, HS7, rfl⟩
                          case measure => omega
                        · have b7 := vnz h17
                          have hz17 := Lib.hid h17
                          clear h17
                          go_wp2
                          go_step3
                          exact ⟨rfl, i + 7, d, c7, Lib.hid ⟨by omega, HC7.out⟩, ⟨hz17.out, by omega⟩, HS6, qA _ rfl⟩
                      · have b6 := vnz h16
                        have hz16 := Lib.hid h16
                        clear h16
                        go_wp2
                        go_step3
                        exact ⟨rfl, i + 6, d, c6, Lib.hid ⟨by omega, HC6.out⟩, ⟨hz16.out, by omega⟩, HS5, qA _ rfl⟩
                    · have b5 := vnz h15
                      have hz15 := Lib.hid h15
                      clear h15
                      go_wp2
                      go_step3
                      exact ⟨rfl, i + 5, d, c5, Lib.hid ⟨by omega, HC5.out⟩, ⟨hz15.out, by omega⟩, HS4, qA _ rfl⟩
                  · have b4 := vnz h14
                    have hz14 := Lib.hid h14
                    clear h14
                    go_wp2
                    go_step3
                    exact ⟨rfl, i + 4, d, c4, Lib.hid ⟨by omega, HC4.out⟩, ⟨hz14.out, by omega⟩, HS3, qA _ rfl⟩
                · have b3 := vnz h13
                  have hz13 := Lib.hid h13
                  clear h13
                  go_wp2
                  go_step3
                  exact ⟨rfl, i + 3, d, c3, Lib.hid ⟨by omega, HC3.out⟩, ⟨hz13.out, by omega⟩, HS2, qA _ rfl⟩
              · have b2 := vnz h12
                have hz12 := Lib.hid h12
                clear h12
                go_wp2
                go_step3
                exact ⟨rfl, i + 2, d, c2, Lib.hid ⟨by omega, HC2.out⟩, ⟨hz12.out, by omega⟩, HS1, qA _ rfl⟩
            · have b1 := vnz h11
              have hz11 := Lib.hid h11
              clear h11
              go_wp2
              go_step3
              exact ⟨rfl, i + 1, d, c1, Lib.hid ⟨by omega, HC1.out⟩, ⟨hz11.out, by omega⟩, HS0, qA _ rfl⟩
          · have b0 := vnz h10
            have hz10 := Lib.hid h10
            clear h10
            go_wp2
            go_step3
            exact ⟨rfl, i + 0, d, c0, Lib.hid ⟨by omega, HC0.out⟩, ⟨hz10.out, by omega⟩, HS, qA _ rfl⟩
        · have e8 : decide ((i : Int) < (t.size : Int) - 8) = false := decide_eq_false (by omega)
          obtain ⟨c, hc⟩ : ∃ c, vch (t[i]'hN.1) = c := ⟨_, rfl⟩
          have z0 : w.cell? ⟨3, (t[i]'hN.1).toNat, none⟩ = some (.int .u8 (c : Int)) := by rw [← hc]; exact hG.out _
          have y0 := u8c (t[i]'hN.1)
          have HC := Lib.hid hc
          clear hc
          by_cases hz' : c = 0
          · have b0 := vz hz'
            have HS1 := Lib.hid ((sq_plain hN.1 (HC.out.trans hz') d).symm.trans HS.out)
            clear hz'
            go_wp2
            simp only [jumpsTo]
            go_wp2
            go_roundg j
            case rel => exact ⟨i + 1, d, by go_num, by go_num, by omega, HS1, rfl⟩
            case measure => omega
          · have b0 := vnz hz'
            have hz := Lib.hid hz'
            clear hz'
            go_wp2
            go_step3
            (simp only [Exit.then]; refine (‹∀ (a : Act) (w : World), Code.wp _ _ _ a w → _›) _ _ ?_)
            refine hfirst.out 0 _ _ _ ?_ rfl
            exact ⟨rfl, i, d, c, Lib.hid ⟨hN.1, HC.out⟩, ⟨hz.out, by omega⟩, HS, qA _ rfl⟩

end Go.Proofs.YtifcmhekpbfboaaDoor
