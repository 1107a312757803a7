/- The walks of fastjson's parseRawKey and parseRawString: the inside of a string up to its closing quotation mark, and the rest. Condition: the text takes at most 2^47 - 4096 bytes. -/
import Derived.Test.YtnidncohhinjbaaDoorProg
import Derived.Test.YtnidncohhinjbaaDoorRkPlain
import Derived.Test.YtnidncohhinjbaaDoorShelf
import Derived.WalkKit
import Derived.WalkSpells
import Derived.Deep.QuietTactic
import Derived.BigQuiet
import Derived.Lib.Hide
import Derived.WalkSmall
import Derived.Outline
import Derived.Deep.LoopGhost
import Derived.IntWalk
import Derived.Deep.DeepCutAuto
import Derived.Deep.CutBlock
import Derived.Lib.SmallJoins
import Derived.Lib.Split
import Derived.Lib.IndexBytes
namespace Go.Proofs.YtnidncohhinjbaaDoor
open Go.RowKit

def RawPost (s : ByteArray) (w : World) (e : Ending) (w' : World) : Prop :=
  Below w.heap.size w w' ∧ ((∃ k, closeL s.data.toList = some k ∧ e = .returned (.tuple #[.string (s.extract 0 k), .string (s.extract (k + 1) s.size), .nilIface])) ∨
    (closeL s.data.toList = none ∧ ∃ a b t v, e = .returned (.tuple #[.string a, .string b, .iface t v])))

def RawYes (s : ByteArray) (k : Nat) (w : World) (e : Ending) (w' : World) : Prop := e = .returned (.tuple #[.string (s.extract 0 k), .string (s.extract (k + 1) s.size), .nilIface]) ∧ Below w.heap.size w w'
def RawNo (w : World) (e : Ending) (w' : World) : Prop := ∃ a b t v, e = .returned (.tuple #[.string a, .string b, .iface t v]) ∧ Below w.heap.size w w'
theorem raw_yes {s : ByteArray} {k : Nat} {w w' : World} {e : Ending} (h : RawPost s w e w') (hc : closeL s.data.toList = some k) : RawYes s k w e w' := by
  obtain ⟨hb, ⟨k', h1, h2⟩ | ⟨h1, _⟩⟩ := h
  · rw [hc] at h1
    obtain rfl : k = k' := by simpa using h1
    exact ⟨h2, hb⟩
  · rw [hc] at h1; simp at h1
theorem raw_no {s : ByteArray} {w w' : World} {e : Ending} (h : RawPost s w e w') (hc : closeL s.data.toList = none) : RawNo w e w' := by
  obtain ⟨hb, ⟨k', h1, h2⟩ | ⟨h1, a, b, t, v, h2⟩⟩ := h
  · rw [hc] at h1; simp at h1
  · exact ⟨a, b, t, v, h2, hb⟩
theorem u8_ne {c : UInt8} {n : Nat} (hn : n < 256) (h : ¬ c = UInt8.ofNat n) : ((c.toNat : Int) == (n : Int)) = false := by
  simp only [beq_eq_false_iff_ne]
  intro e
  apply h
  apply UInt8.toNat_inj.1
  rw [UInt8.toNat_ofNat_of_lt' (by simpa using hn)]
  omega
theorem rk_len (s : ByteArray) : s.data.toList.length = s.size := by rw [Array.length_toList]; rfl
theorem rk_get {s : ByteArray} {k : Nat} (h : k < s.size) : s.data.toList[k]? = some s[k] := by
  rw [List.getElem?_eq_getElem (by simpa using h)]; rfl

theorem rk_sub {s : ByteArray} {o j : Nat} : (s.extract o s.size).data.toList[j]? = s.data.toList[o + j]? := by
  rw [Lib.extract_to_end, List.getElem?_drop]

/-- What holds at the head of a round: t is s from place o on, and its first quotation mark stands at m + 1, behind a backslash. -/
def Inv (s : ByteArray) (o m : Nat) (t : ByteArray) : Prop :=
  t = s.extract o s.size ∧ o + m + 1 < s.size ∧ s.data.toList[o + m + 1]? = some 34 ∧ s.data.toList[o + m]? = some 92 ∧ runB s.data.toList o = 0 ∧ ∀ j, j < o + m + 1 → closesB s.data.toList j = false

theorem inv_start {s : ByteArray} {m : Nat} (h1 : m + 1 < s.size) (h2 : s.data.toList[m + 1]? = some 34) (h3 : s.data.toList[m]? = some 92) (h4 : ∀ j, j < m + 1 → s.data.toList[j]? ≠ some 34) : Inv s 0 m s :=
  ⟨by simp, by omega, by simpa using h2, by simpa using h3, rfl, fun j hj => closes_not (h4 j (by omega))⟩
theorem inv_size {s t : ByteArray} {o m : Nat} (h : Inv s o m t) : t.size + o = s.size := by
  have h2 := h.2.1
  rw [h.1, ByteArray.size_extract]
  omega
theorem inv_get {s t : ByteArray} {o m p : Nat} {c : UInt8} (h : Inv s o m t) (hp : t.data.toList[p]? = some c) : s.data.toList[o + p]? = some c := by
  rw [h.1, rk_sub] at hp
  exact hp

theorem inv_rest {s t : ByteArray} {o m : Nat} (h : Inv s o m t) : t.extract (m + 1 + 1) t.size = s.extract (o + m + 1 + 1) s.size := by
  have hs := inv_size h
  apply ByteArray.ext
  apply Array.ext'
  rw [Lib.extract_to_end, Lib.extract_to_end, h.1, Lib.extract_to_end, List.drop_drop]
  congr 1
theorem inv_odd {s t : ByteArray} {o m q : Nat} (h : Inv s o m t) (hr : runB s.data.toList (o + m + 1) = m + 1 - q) (hp : (m + 1 - q) % 2 = 1) : ∀ j, j < o + m + 2 → closesB s.data.toList j = false := by
  intro j hj
  by_cases e : j = o + m + 1
  · subst e; exact closes_odd (by rw [hr]; exact hp)
  · exact h.2.2.2.2.2 j (by omega)
theorem inv_none {s t2 : ByteArray} {o m : Nat} (h2 : t2 = s.extract (o + m + 2) s.size) (ho : ∀ j, j < o + m + 2 → closesB s.data.toList j = false) (hn : ∀ j : Nat, t2.data.toList[j]? ≠ some 34) : closeL s.data.toList = none := by
  refine closeL_none fun j _ => ?_
  by_cases e : j < o + m + 2
  · exact ho j e
  · have := hn (j - (o + m + 2))
    rw [h2, rk_sub, show o + m + 2 + (j - (o + m + 2)) = j by omega] at this
    exact closes_not this

theorem inv_at {s t2 : ByteArray} {o n : Nat} {c : UInt8} (h2 : t2 = s.extract o s.size) (hn : t2.data.toList[n]? = some c) : s.data.toList[o + n]? = some c := by
  rw [h2, rk_sub] at hn
  exact hn
theorem inv_before {s t2 : ByteArray} {o n : Nat} (h2 : t2 = s.extract o s.size) (ho : ∀ j, j < o → closesB s.data.toList j = false) (hn : ∀ j : Nat, j < n → t2.data.toList[j]? ≠ some 34) : ∀ j, j < o + n → closesB s.data.toList j = false := by
  intro j hj
  by_cases e : j < o
  · exact ho j e
  · have := hn (j - o) (by omega)
    rw [h2, rk_sub, show o + (j - o) = j by omega] at this
    exact closes_not this

theorem inv_tail {s t2 : ByteArray} {o : Nat} (h2 : t2 = s.extract o s.size) (k : Nat) : t2.extract k t2.size = s.extract (o + k) s.size := by
  apply ByteArray.ext
  apply Array.ext'
  rw [Lib.extract_to_end, Lib.extract_to_end, h2, Lib.extract_to_end, List.drop_drop]

set_option maxHeartbeats 4000000 in
set_option maxRecDepth 100000 in
theorem rawString_any (s : ByteArray) (w : World) (hs : s.size ≤ 140737488351232) :
    Calls Tryd.prog 103 #[.string s] w (RawPost s w) := by
  have hl := rk_len s
  have HL := Lib.hid hl
  clear hl
  obtain ⟨m0, hm0⟩ : ∃ m, m = Lib.indexByte s.data.toList 34 := ⟨_, rfl⟩
  have hC : Hid (∀ w, Calls Tryd.prog 62 #[.string s, .int .u8 34] w fun e w' => e = .returned (.int .i64 m0) ∧ w = w') := Lib.hid fun w => by rw [hm0]; exact (Tryd.strings_IndexByte s 34 w).mono fun e w' h => ⟨h.1, h.2.symm⟩
  by_cases hneg : m0 = -1
  · have HC : Hid (closeL s.data.toList = none) := Lib.hid (closeL_none fun j _ => closes_not (index_none (hm0.symm.trans hneg) j))
    subst hneg
    clear hm0
    go_enter Tryd.func103, Tryd.ntmps103
    go_wp2_with (first | (go_at_call 62; refine (hC.out _).mono ?_; rintro e w' ⟨rfl, rfl⟩) | go_in)
    go_ret3
    exact ⟨(Below.refl _ _).alloc (Nat.le_refl _) _, .inr ⟨HC.out, _, _, _, _, rfl⟩⟩
  · have hge := Lib.indexByte_ge s.data.toList 34
    obtain ⟨n, hn⟩ : ∃ n : Nat, m0 = n := ⟨m0.toNat, by omega⟩
    subst hn
    obtain ⟨n1, n2, n3⟩ := index_some (n := n) hm0.symm
    have N1 : n < s.size := by rw [HL.out] at n1; exact n1
    have N2 := Lib.hid n2
    have N3 := Lib.hid n3
    clear hm0 hge hneg n1 n2 n3
    cases n with
    | zero =>
      have HC : Hid (closeL s.data.toList = some 0) := Lib.hid (closeL_some (by rw [HL.out]; exact N1) (closes_yes N2.out rfl) fun j hj => absurd hj (by omega))
      go_enter Tryd.func103, Tryd.ntmps103
      go_wp2_with (first | (go_at_call 62; refine (hC.out _).mono ?_; rintro e w' ⟨rfl, rfl⟩) | go_in)
      go_quiet (fail)
      go_wp2
      go_ret3
      exact ⟨below_drewN (Below.refl _ _) _, .inl ⟨0, HC.out, by first | rfl | simp⟩⟩
    | succ m =>
      have hm : m < s.size := by omega
      have HG := Lib.hid (rk_get hm)
      by_cases h92 : s[m] = 92
      · have b2 : ((s[m].toNat : Int) != 92) = false := by rw [h92]; rfl
        have H92 : Hid (s.data.toList[m]? = some 92) := Lib.hid (by rw [HG.out, h92])
        clear h92
        go_enter Tryd.func103, Tryd.ntmps103
        go_wp2_with (first | (go_at_call 62; refine (hC.out _).mono ?_; rintro e w' ⟨rfl, rfl⟩) | go_in)
        have HI : ∀ (t : ByteArray), Hid (∀ w, Calls Tryd.prog 62 #[.string t, .int .u8 34] w fun e w' => e = .returned (.int .i64 (Lib.indexByte t.data.toList 34)) ∧ w = w') := fun t => Lib.hid fun w => (Tryd.strings_IndexByte t 34 w).mono fun e w' h => ⟨h.1, h.2.symm⟩
        clear hC
        have A0 : Hid (Inv s 0 m s) := Lib.hid (inv_start N1 N2.out H92.out N3.out)
        clear H92 N2 N3 N1 HG b2
        go_loopg [0, 5] s.size (fun g t n wc => ∃ (o m : Nat) (t' : ByteArray), t = .string t' ∧ n = .int .i64 (m + 1) ∧ Hid (Inv s o m t') ∧ Hid (g = t'.size) ∧ wc = w)
        case atStart => exact ⟨0, m, s, rfl, by go_num, A0, Lib.hid rfl, rfl⟩
        case round =>
          clear A0
          obtain ⟨o, m, t, rfl, rfl, hI, hG, rfl⟩ := hrel
          have hts : t.size + o = s.size := inv_size hI.out
          have hom : o + m + 1 < s.size := hI.out.2.1
          have hmt : m + 1 < t.size := by omega
          have HTS := Lib.hid hts
          clear hts
          go_upto_block 2 with (fail)
          go_cut [7] (fun i wc => ∃ q : Nat, q ≤ m ∧ i = .int .i64 q ∧ Hid (runB s.data.toList (o + m + 1) = m + 1 - q) ∧ wc = wr)
          case first =>
            go_wp2
            go_loop [7] (fun i => ∃ q : Nat, q ≤ m ∧ i = .int .i64 q ∧ Hid (∀ j : Nat, q ≤ j → j ≤ m → s.data.toList[o + j]? = some 92)) (fun i => (intOf i).toNat)
            case atStart => exact ⟨m, by omega, by go_num, Lib.hid fun j a b => by rw [show j = m by omega]; exact hI.out.2.2.2.1⟩
            case round =>
              obtain ⟨q, hq, rfl, hA⟩ := hrel
              cases q with
              | zero =>
                have HR : Hid (runB s.data.toList (o + m + 1) = m + 1 - 0) := Lib.hid (runB_stretch o hI.out.2.2.2.2.1 (m + 1) fun j a b => by have := hA.out (j - o) (by omega) (by omega); rwa [show o + (j - o) = j by omega] at this)
                go_wp2
                go_meet
                case rel => exact ⟨0, by omega, by go_num, HR, rfl⟩
              | succ p =>
                have hp : p < t.size := by omega
                have HG := Lib.hid (inv_get hI.out (rk_get hp))
                by_cases h92 : t[p] = 92
                · have b2 : ((t[p].toNat : Int) == 92) = true := by rw [h92]; rfl
                  have HA : Hid (∀ j : Nat, p ≤ j → j ≤ m → s.data.toList[o + j]? = some 92) := Lib.hid fun j a b => by
                    by_cases e : j = p
                    · subst e; rw [HG.out, h92]
                    · exact hA.out j (by omega) b
                  clear h92
                  go_wp2
                  go_round
                  case rel => exact ⟨p, by omega, by go_num, HA⟩
                  case measure => simp [intOf]
                · have b2 : ((t[p].toNat : Int) == 92) = false := u8_ne (n := 92) (by decide) h92
                  have HR : Hid (runB s.data.toList (o + m + 1) = m + 1 - (p + 1)) := Lib.hid (by
                    have h0 : runB s.data.toList (o + p + 1) = 0 := runB_zero fun j hj => by
                      obtain rfl : j = o + p := by omega
                      rw [HG.out]; simpa using h92
                    have := runB_stretch (o + p + 1) h0 (m - p) fun j a b => by have := hA.out (j - o) (by omega) (by omega); rwa [show o + (j - o) = j by omega] at this
                    rw [show o + m + 1 = o + p + 1 + (m - p) by omega, this]; omega)
                  clear h92
                  go_wp2
                  go_meet
                  case rel => exact ⟨p + 1, by omega, by go_num, HR, rfl⟩
          case rest =>
            obtain ⟨q, hq, rfl, hR, rfl⟩ := hcut
            have hrun := hR.out
            by_cases hpar : (m + 1 - q) % 2 = 0
            · have HC : Hid (closeL s.data.toList = some (o + m + 1)) := Lib.hid (closeL_some (by rw [HL.out]; exact hom) (closes_yes hI.out.2.2.1 (by rw [hrun]; exact hpar)) hI.out.2.2.2.2.2)
              clear hrun
              have e1 : IntKind.i64.wrap ((s.size : Int) - (t.size : Int)) = (o : Int) := by have := HTS.out; rw [IntWalk.i64_in _ (by omega)]; omega
              have e2 : IntKind.i64.wrap ((o : Int) + ((m : Int) + 1)) = ((o + m + 1 : Nat) : Int) := by rw [IntWalk.i64_in _ (by omega)]; omega
              go_wp2
              go_quiet (fail)
              clear e1 e2
              go_wp2
              go_ret3
              exact ⟨below_drewN (Below.refl _ _) _, .inl ⟨o + m + 1, HC.out, by rw [← inv_rest hI.out]; rfl⟩⟩
            · have bpar : (((m : Int) + 1 - (q : Int)) % 2 == 0) = false := by simp only [beq_eq_false_iff_ne]; omega
              have hodd := inv_odd hI.out hrun (by omega)
              have HO := Lib.hid hodd
              have hsz2 : (t.extract (m + 1 + 1) t.size).size + (o + m + 2) = s.size := by have := HTS.out; rw [ByteArray.size_extract]; omega
              obtain ⟨t2, ht2⟩ : ∃ t2, t2 = t.extract (m + 1 + 1) t.size := ⟨_, rfl⟩
              have ht3 : t2 = s.extract (o + m + 2) s.size := by rw [ht2, inv_rest hI.out]
              rw [← ht2] at hsz2
              obtain ⟨r, hr⟩ : ∃ r, r = Lib.indexByte t2.data.toList 34 := ⟨_, rfl⟩
              have hC : Hid (∀ w, Calls Tryd.prog 62 #[.string t2, .int .u8 34] w fun e w' => e = .returned (.int .i64 r) ∧ w = w') := Lib.hid fun w => by rw [hr]; exact (HI t2).out w
              have hge := Lib.indexByte_ge t2.data.toList 34
              have HT2 := Lib.hid ht2
              have HT3 := Lib.hid ht3
              by_cases hneg : r = -1
              · have HC : Hid (closeL s.data.toList = none) := Lib.hid (inv_none HT3.out hodd fun j => index_none (hr.symm.trans hneg) j)
                subst hneg
                clear hr hge hrun hodd ht2 ht3 hpar
                go_wp2_with fail
                rw [← HT2.out]
                go_wp2_with (first | (go_at_call 62; refine (hC.out _).mono ?_; rintro e w' ⟨rfl, rfl⟩) | go_in)
                go_ret3
                exact ⟨(Below.refl _ _).alloc (Nat.le_refl _) _, .inr ⟨HC.out, _, _, _, _, rfl⟩⟩
              · obtain ⟨n, hn⟩ : ∃ n : Nat, r = n := ⟨r.toNat, by omega⟩
                subst hn
                obtain ⟨n1, n2, n3⟩ := index_some (n := n) hr.symm
                have N1 : n < t2.size := by rw [rk_len] at n1; exact n1
                have N2 := Lib.hid n2
                have N3 := Lib.hid n3
                have hn2 : o + m + 2 + n < s.size := by omega
                have hb3 := inv_before HT3.out hodd n3
                have HB3 := Lib.hid hb3
                have hr0 : runB s.data.toList (o + m + 2) = 0 := runB_zero fun j hj => by
                  obtain rfl : j = o + m + 1 := by omega
                  rw [hI.out.2.2.1]; decide
                have HR0 := Lib.hid hr0
                have HS2 := Lib.hid hsz2
                have HQ := Lib.hid (inv_at HT3.out n2)
                clear hr hge hneg hrun hodd ht2 ht3 n1 n2 n3 hb3 hr0 hsz2 hpar
                cases n with
                | zero =>
                  have HC : Hid (closeL s.data.toList = some (o + m + 2)) := Lib.hid (closeL_some (by rw [HL.out]; omega) (closes_yes HQ.out (by rw [HR0.out])) HB3.out)
                  have e1 : IntKind.i64.wrap ((s.size : Int) - (t2.size : Int)) = ((o + m + 2 : Nat) : Int) := by have := HS2.out; rw [IntWalk.i64_in _ (by omega)]; omega
                  go_wp2_with fail
                  rw [← HT2.out]
                  go_wp2_with (first | (go_at_call 62; refine (hC.out _).mono ?_; rintro e w' ⟨rfl, rfl⟩) | go_in)
                  go_quiet (fail)
                  clear e1
                  go_wp2
                  go_ret3
                  exact ⟨below_drewN (Below.refl _ _) _, .inl ⟨o + m + 2, HC.out, by rw [← inv_tail HT3.out 1]; rfl⟩⟩
                | succ p =>
                  have hp : p < t2.size := by omega
                  have HG := Lib.hid (rk_get hp)
                  by_cases h92 : t2[p] = 92
                  · have b2 : ((t2[p].toNat : Int) != 92) = false := by rw [h92]; rfl
                    have HI2 : Hid (Inv s (o + m + 2) p t2) := Lib.hid ⟨HT3.out, by omega, HQ.out, inv_at HT3.out (by rw [HG.out, h92]), HR0.out, fun j hj => HB3.out j (by omega)⟩
                    have hlt : t2.size < t.size := by have := HTS.out; have := HS2.out; omega
                    clear h92
                    go_wp2_with fail
                    rw [← HT2.out]
                    go_wp2_with (first | (go_at_call 62; refine (hC.out _).mono ?_; rintro e w' ⟨rfl, rfl⟩) | go_in)
                    go_roundg t2.size
                    case rel => exact ⟨o + m + 2, p, t2, rfl, by go_num, HI2, Lib.hid rfl, rfl⟩
                    case measure => have := hG.out; omega
                  · have b2 : ((t2[p].toNat : Int) != 92) = true := by
                      have := u8_ne (n := 92) (by decide) h92
                      simpa using this
                    have HC : Hid (closeL s.data.toList = some (o + m + 2 + (p + 1))) := by
                      refine Lib.hid (closeL_some (by rw [HL.out]; omega) (closes_yes HQ.out ?_) HB3.out)
                      rw [runB_zero fun j hj => ?_]
                      obtain rfl : j = o + m + 2 + p := by omega
                      rw [inv_at HT3.out HG.out]; simpa using h92
                    clear h92
                    have e1 : IntKind.i64.wrap ((s.size : Int) - (t2.size : Int)) = ((o + m + 2 : Nat) : Int) := by have := HS2.out; rw [IntWalk.i64_in _ (by omega)]; omega
                    have e2 : IntKind.i64.wrap (((o + m + 2 : Nat) : Int) + ((p : Int) + 1)) = ((o + m + 2 + (p + 1) : Nat) : Int) := by rw [IntWalk.i64_in _ (by omega)]; omega
                    go_wp2_with fail
                    rw [← HT2.out]
                    go_wp2_with (first | (go_at_call 62; refine (hC.out _).mono ?_; rintro e w' ⟨rfl, rfl⟩) | go_in)
                    go_quiet (fail)
                    clear e1 e2
                    go_wp2
                    go_ret3
                    exact ⟨below_drewN (Below.refl _ _) _, .inl ⟨o + m + 2 + (p + 1), HC.out, by rw [show o + m + 2 + (p + 1) + 1 = o + m + 2 + (p + 1 + 1) from rfl, ← inv_tail HT3.out (p + 1 + 1)]; rfl⟩⟩
      · have b2 : ((s[m].toNat : Int) != 92) = true := by
          have := u8_ne (n := 92) (by decide) h92
          simpa using this
        have HC : Hid (closeL s.data.toList = some (m + 1)) := by
          refine Lib.hid (closeL_some (by rw [HL.out]; exact N1) (closes_yes N2.out ?_) fun j hj => closes_not (N3.out j hj))
          rw [runB_zero fun j hj => ?_]
          obtain rfl : j = m := by omega
          rw [HG.out]; simpa using h92
        clear h92
        go_enter Tryd.func103, Tryd.ntmps103
        go_wp2_with (first | (go_at_call 62; refine (hC.out _).mono ?_; rintro e w' ⟨rfl, rfl⟩) | go_in)
        go_quiet (fail)
        go_wp2
        go_ret3
        exact ⟨below_drewN (Below.refl _ _) _, .inl ⟨m + 1, HC.out, rfl⟩⟩
end Go.Proofs.YtnidncohhinjbaaDoor
