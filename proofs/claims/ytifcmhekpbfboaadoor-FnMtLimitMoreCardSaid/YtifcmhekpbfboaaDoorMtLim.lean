/- The contract of match's matchLimit0 (without the fold of letters): what is told of a match with a limit. Condition: the two tables of unicode/utf8 read as the row says. -/
import Derived.Test.YtifcmhekpbfboaaDoorMtWalk
import Derived.Test.YtifcmhekpbfboaaDoorWWords
import Derived.Test.YtifcmhekpbfboaaDoorWLast
namespace Go.Proofs.YtifcmhekpbfboaaDoor
open Go.RowKit Go.Proofs.YtifcmhekpbfboaaDoorW.PrintWords Go.Proofs.YtifcmhekpbfboaaDoorW.PrintLast Go.Proofs.YtifcmhekpbfboaaDoor.MmatchmatchTrimSuffix

/-- A star alone matches; else the inner function is asked with the limit 'bytes times complexity'. -/
def match_matchLimit0.f (k : Nat) (s p : ByteArray) (m : Int) (nocase : Bool) : Option (Bool × Bool) :=
  if p = ⟨#[42]⟩ then some (true, false)
  else if s.size ≤ 1000000 ∧ p.size ≤ 140737488351232 ∧ 0 ≤ m ∧ m ≤ 1000000000 ∧ nocase = false then
    (mfun k ((s.size : Int) * m) s p 0).bind fun rc => some (if rc.1 = 2 then (false, true) else (rc.1 == 1, false))
  else none

theorem bind_mono {α β : Type} {a b : Option α} {f g : α → Option β} (h : LeO a b) (h2 : ∀ x, LeO (f x) (g x)) : LeO (a.bind f) (b.bind g) := LeO.bind h h2

theorem skipS.mono : ∀ (k : Nat) (p : ByteArray), LeO (skipS k p) (skipS (k + 1) p)
  | 0, p => fun r h => by simp [skipS] at h
  | k + 1, p => by
    unfold skipS
    split
    · split
      · exact skipS.mono k _
      · exact LeO.refl _
    · exact LeO.refl _

theorem mloop.mono : ∀ (k : Nat) (L : Int) (s p : ByteArray) (c : Int), LeO (mloop k L s p c) (mloop (k + 1) L s p c)
  | 0, L, s, p, c => fun r h => by simp [mloop] at h
  | k + 1, L, s, p, c => by
    have ih := mloop.mono k
    unfold mloop
    repeat' first
      | (with_reducible exact ih _ _ _ _)
      | (with_reducible exact LeO.refl _)
      | (with_reducible exact LeO.none _)
      | (with_reducible exact skipS.mono _ _)
      | (with_reducible exact match_matchTrimSuffix.mono _ _ _ _)
      | (with_reducible refine LeO.ite ?_ ?_)
      | (with_reducible refine LeO.bind ?_ (fun _ => ?_))

theorem mfun.mono (k : Nat) (L : Int) (s p : ByteArray) (c : Int) : LeO (mfun k L s p c) (mfun (k + 1) L s p c) := by
  unfold mfun
  exact LeO.ite (LeO.ite (LeO.refl _) (mloop.mono _ _ _ _ _)) (LeO.refl _)

theorem match_matchLimit0.mono : ∀ a0 a1 a2 a3 k, LeO (match_matchLimit0.f k a0 a1 a2 a3) (match_matchLimit0.f (k + 1) a0 a1 a2 a3) := by
  intro s p m b k
  unfold match_matchLimit0.f
  exact LeO.ite (LeO.refl _) (LeO.ite (LeO.bind (mfun.mono _ _ _ _ _) fun _ => LeO.refl _) (LeO.refl _))

theorem cnt_start (w : World) (hG : GLU8 w) : Cnt w.heap.size w 0 (w.alloc (.cells #[.int .i64 0] 3 (0, 0))) := by
  have h1 := World.block_lt_of_cell? w _ (hG.1 0 (by omega))
  have h2 := World.block_lt_of_cell? w _ (hG.2 0 (by omega)).1
  have hb : Below w.heap.size w (w.alloc (.cells #[.int .i64 0] 3 (0, 0))) := (Below.refl _ _).alloc (Nat.le_refl _) _
  exact ⟨by simp [go_sem], by simp [go_sem], hb, by simp, hG.keep hb, h1, h2⟩

set_option maxHeartbeats 1000000 in
theorem match_matchLimit0.calls (k : Nat) (s p : ByteArray) (m : Int) (nocase : Bool) (r1 r2 : Bool) (w : World) (hG : GLU8 w) (h : match_matchLimit0.f k s p m nocase = some (r1, r2)) :
    Calls Tryd.prog 32 #[.string s, .string p, .int .i64 m, .bool nocase] w fun e w' => e = .returned (.tuple #[.bool r1, .bool r2]) ∧ Below w.heap.size w w' := by
  unfold match_matchLimit0.f at h
  by_cases hst : p = ⟨#[42]⟩
  · rw [if_pos hst] at h
    simp only [Option.some.injEq, Prod.mk.injEq] at h
    obtain ⟨rfl, rfl⟩ := h
    subst hst
    clear hG
    go_enter Tryd.func32, Tryd.ntmps32
    go_wp2
    go_ret2
    exact ⟨rfl, Below.refl _ _⟩
  · rw [if_neg hst] at h
    by_cases hb : s.size ≤ 1000000 ∧ p.size ≤ 140737488351232 ∧ 0 ≤ m ∧ m ≤ 1000000000 ∧ nocase = false
    · rw [if_pos hb] at h
      obtain ⟨h1, h2, h3, h4, rfl⟩ := hb
      obtain ⟨⟨r, c⟩, hf, h⟩ := Option.bind_eq_some_iff.1 h
      simp only [Option.some.injEq] at h
      have hm0 : (0 : Int) ≤ (s.size : Int) * m := Int.mul_nonneg (by omega) h3
      have hm1 : (s.size : Int) * m ≤ 1000000 * 1000000000 := Int.mul_le_mul (by omega) h4 h3 (by omega)
      have hw : IntKind.i64.wrap ((s.size : Int) * m) = (s.size : Int) * m := IntWalk.i64_in _ (by omega)
      have HC : Hid (∀ w', Cnt w.heap.size w 0 w' → Calls Tryd.prog 37 #[.string s, .string p, .int .i64 s.size, .pointer (some ⟨w.heap.size, 0, none⟩), .int .i64 m, .bool false] w' (MPost w.heap.size w r c)) :=
        Lib.hid fun w' hw' => match_any k _ _ m s p 0 r c w.heap.size w w' (by omega) h2 h3 hw (by omega) hf hw'
      have hne : (p.toList == [42]) = false := by
        rw [beq_eq_false_iff_ne]
        intro e
        rw [ByteArray.toList_eq] at e
        apply hst
        apply ByteArray.ext
        apply Array.ext'
        rw [e]
      have HG := Lib.hid hG
      have HH := Lib.hid h
      clear hf hst hm0 hm1 hw h hG
      go_enter Tryd.func32, Tryd.ntmps32
      have H0 := Lib.hid (cnt_start w HG.out)
      by_cases hr : r = 2
      · subst hr
        have hh := HH.out
        rw [if_pos rfl] at hh
        simp only [Prod.mk.injEq] at hh
        obtain ⟨rfl, rfl⟩ := hh
        go_wp2_with (go_at_call 37; refine (HC.out _ H0.out).mono ?_; rintro e w' ⟨rfl, hC1⟩; have HC1 := Lib.hid hC1; clear hC1)
        go_ret2
        exact ⟨rfl, HC1.out.2.2.1⟩
      · have b2 : (r == 2) = false := i_ne hr
        have hh := HH.out
        rw [if_neg hr] at hh
        simp only [Prod.mk.injEq] at hh
        obtain ⟨rfl, rfl⟩ := hh
        clear hr HH
        go_wp2_with (go_at_call 37; refine (HC.out _ H0.out).mono ?_; rintro e w' ⟨rfl, hC1⟩; have HC1 := Lib.hid hC1; clear hC1)
        go_ret2
        exact ⟨rfl, HC1.out.2.2.1⟩
    · rw [if_neg hb] at h; simp at h

end Go.Proofs.YtifcmhekpbfboaaDoor
