/- The walk of fastjson's skipWS: it answers at every text of at most 2^47 - 4096 bytes, with a text that is no longer. -/
import Derived.Test.YtnidncohhinjbaaDoorProg
import Derived.WalkSmall
import Derived.Lib.Hide
import Derived.Deep.QuietTactic
import Derived.Test.YtnidncohhinjbaaDoorMfastjsonskipWS1
namespace Go.Proofs.YtnidncohhinjbaaDoor
open Go.RowKit Go.Proofs.YtnidncohhinjbaaDoorW.PrintWords Go.Proofs.YtnidncohhinjbaaDoorW.PrintLast Go.Proofs.YtnidncohhinjbaaDoorW.PrintMore
open Go.Proofs.YtnidncohhinjbaaDoor.MfastjsonskipWS

theorem wrap_up {i : Int} (h0 : 0 ≤ i) (h : i ≤ 140737488351232) : wrap64 (i + 1) = i + 1 := by
  unfold wrap64
  omega
theorem slow_end (s : ByteArray) (hs : s.size ≤ 140737488351232) : ∀ (n k : Nat) (i : Int), 0 ≤ i → i ≤ s.size → s.size - i.toNat = n → n < k → ∃ r, fastjson_skipWSSlow.l0 k s i = some r ∧ r.size ≤ s.size := by
  intro n
  induction n with
  | zero =>
    intro k i h0 hi hn hk
    obtain ⟨k, rfl⟩ : ∃ m, k = m + 1 := ⟨k - 1, by omega⟩
    simp only [fastjson_skipWSSlow.l0]
    rw [if_neg (by omega)]
    exact ⟨_, rfl, Nat.zero_le _⟩
  | succ n ih =>
    intro k i h0 hi hn hk
    obtain ⟨k, rfl⟩ : ∃ m, k = m + 1 := ⟨k - 1, by omega⟩
    simp only [fastjson_skipWSSlow.l0]
    rw [if_pos (by omega), if_pos h0, wrap_up h0 (by omega)]
    have hr := ih k (i + 1) (by omega) (by omega) (by omega) (by omega)
    split
    · exact hr
    · split
      · exact hr
      · split
        · exact hr
        · split
          · exact hr
          · try rw [if_pos (by omega)]
            refine ⟨_, rfl, ?_⟩
            rw [ByteArray.size_extract]
            omega
theorem slow_j (s : ByteArray) (hs : s.size ≤ 140737488351232) (h0 : 0 < s.size) (b : Bool) : ∃ r, fastjson_skipWSSlow.j0 (s.size + 2) s b = some r ∧ r.size ≤ s.size := by
  simp only [fastjson_skipWSSlow.j0]
  split
  · exact ⟨_, rfl, Nat.le_refl _⟩
  · exact slow_end s hs (s.size - 1) (s.size + 1) 1 (by omega) (by omega) (by omega) (by omega)
theorem skip_end (s : ByteArray) (hs : s.size ≤ 140737488351232) : ∃ r, fastjson_skipWS.f (s.size + 2) s = some r ∧ r.size ≤ s.size := by
  unfold fastjson_skipWS.f
  split
  · exact ⟨_, rfl, Nat.le_refl _⟩
  · rw [if_pos (by omega)]
    split
    · exact ⟨_, rfl, Nat.le_refl _⟩
    · have hz : 0 < s.size := by omega
      have : ∃ r, fastjson_skipWSSlow.f (s.size + 2) s = some r ∧ r.size ≤ s.size := by
        unfold fastjson_skipWSSlow.f
        rw [if_neg (by omega), if_pos (by omega)]
        split
        · exact slow_j s hs hz _
        · split
          · exact slow_j s hs hz _
          · split
            · exact slow_j s hs hz _
            · exact slow_j s hs hz _
      obtain ⟨r, hr, hrs⟩ := this
      exact ⟨r, by rw [hr]; rfl, hrs⟩
/-- The text behind its leading blanks. -/
def skipF (s : ByteArray) : ByteArray := (fastjson_skipWS.f (s.size + 2) s).getD ⟨#[]⟩
theorem skipF_eq (s : ByteArray) (hs : s.size ≤ 140737488351232) : fastjson_skipWS.f (s.size + 2) s = some (skipF s) := by
  obtain ⟨r, hr, -⟩ := skip_end s hs
  unfold skipF
  rw [hr]
  rfl
theorem skipF_size (s : ByteArray) (hs : s.size ≤ 140737488351232) : (skipF s).size ≤ s.size := by
  obtain ⟨r, hr, h⟩ := skip_end s hs
  unfold skipF
  rw [hr]
  exact h
theorem skip_any (s : ByteArray) (w : World) (hs : s.size ≤ 140737488351232) : Calls Tryd.prog 66 #[.string s] w fun e w' => e = .returned (.string (skipF s)) ∧ Below w.heap.size w w' :=
  (fastjson_skipWS.calls _ s _ w (skipF_eq s hs)).mono fun _ _ h => ⟨h.1, h.2.below⟩
def impl_FjSkip.f (s : ByteArray) : Option ByteArray := if s.size ≤ 140737488351232 then some (skipF s) else none
theorem impl_FjSkip.calls (s r : ByteArray) (w : World) (h : impl_FjSkip.f s = some r) : Calls Tryd.prog 30 #[.string s] w fun e w' => e = .returned (.string r) ∧ Below w.heap.size w w' := by
  unfold impl_FjSkip.f at h
  by_cases hs : s.size ≤ 140737488351232
  · rw [if_pos hs] at h
    obtain rfl := Option.some.inj h
    have HS := Lib.hid (skip_any s w hs)
    clear hs h
    obtain ⟨r, hr⟩ : ∃ r, r = skipF s := ⟨_, rfl⟩
    rw [← hr] at HS ⊢
    clear hr
    go_enter Tryd.func30, Tryd.ntmps30
    go_wp2_with (first | (go_at_call 66; refine HS.out.mono ?_; rintro e w' ⟨rfl, hb⟩) | go_in)
    go_ret
    exact ⟨rfl, hb⟩
  · rw [if_neg hs] at h; simp at h
end Go.Proofs.YtnidncohhinjbaaDoor
