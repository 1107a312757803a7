/- The pure statement of FnGjQueryAny: where a query is found, it begins with "#(" or "#[" and ends behind a bracket that closes. No condition beyond the statement's own. -/
import Derived.Test.YtifcmhekpbfboaaMFnGjQueryAny1
namespace Go.Proofs.Ytifcmhekpbfboaa.Pure
open Go.RowKit Go.Proofs.Ytifcmhekpbfboaa.MFnGjQueryAny Go.Proofs.YtifcmhekpbfboaaW.PrintWords Go.Proofs.YtifcmhekpbfboaaW.PrintLast

theorem qStr_ge (s : ByteArray) : ∀ (k i : Nat) (v : Bool), i ≤ (qStr s k i v).1
  | 0, i, v => Nat.le_refl _
  | k + 1, i, v => by
    unfold qStr
    split
    · split
      · have := qStr_ge s k (i + 2) true; omega
      · split
        · exact Nat.le_refl _
        · have := qStr_ge s k (i + 1) v; omega
    · exact Nat.le_refl _

theorem qLoop_tells (s : ByteArray) : ∀ (k i j d : Nat) (v : Bool), 2 ≤ i → 1 ≤ d → 2 ≤ (qLoop s k i j d v).1 ∧ ((qLoop s k i j d v).2.2.1 = 0 → (qLoop s k i j d v).1 < s.size ∧ (byteAt s (qLoop s k i j d v).1 = 93 ∨ byteAt s (qLoop s k i j d v).1 = 41))
  | 0, i, j, d, v, h2, hd => ⟨h2, fun h => by simp only [qLoop] at h; omega⟩
  | k + 1, i, j, d, v, h2, hd => by
    unfold qLoop
    split
    · rename_i hlt
      split
      · exact qLoop_tells s k _ _ _ _ (by omega) hd
      · split
        · exact qLoop_tells s k _ _ _ _ (by omega) hd
        · split
          · exact qLoop_tells s k _ _ _ _ (by omega) (by omega)
          · split
            · rename_i hc
              split
              · exact ⟨h2, fun _ => ⟨hlt, hc⟩⟩
              · exact qLoop_tells s k _ _ _ _ (by omega) (by omega)
            · split
              · have := qStr_ge s (s.size + 2) (i + 1) v
                exact qLoop_tells s k _ _ _ _ (by omega) hd
              · exact qLoop_tells s k _ _ _ _ (by omega) hd
    · exact ⟨h2, fun h => by dsimp only at h; omega⟩

/-- What the law asks of a text's query. -/
theorem qOf_ok {s : ByteArray} (h : (qOf s).2.2.2.2.2.2 = true) : qHead s = true ∧ ∃ i, 2 ≤ i ∧ i < s.size ∧ (byteAt s i = 93 ∨ byteAt s i = 41) ∧ (qOf s).2.2.2.2.1 = i + 1 ∧ (qOf s).2.2.2.1 = s.extract (i + 1) s.size := by
  unfold qOf at h ⊢
  cases hq : qHead s with
  | false => rw [hq] at h; simp at h
  | true =>
    rw [hq] at h
    simp only [if_true] at h ⊢
    obtain ⟨h1, h2⟩ := qLoop_tells s (s.size + 2) 2 0 1 false (by omega) (by omega)
    generalize qLoop s (s.size + 2) 2 0 1 false = r at h h1 h2 ⊢
    refine ⟨trivial, r.1, h1, ?_⟩
    unfold qEnd at h ⊢
    by_cases hd : 0 < r.2.2.1
    · rw [if_pos hd] at h; simp at h
    · rw [if_neg hd]
      obtain ⟨a, b⟩ := h2 (by omega)
      refine ⟨a, b, ?_⟩
      split
      · exact ⟨rfl, rfl⟩
      · exact ⟨rfl, rfl⟩

theorem qa_bt {s : ByteArray} {i : Nat} (h : i < s.size) : bt s (i : Int) = (byteAt s i : Int) := by
  unfold bt byteAt
  rw [dif_pos (by simpa using h), dif_pos h]
  simp

/-- What the query's parts are, as the law is handed them. -/
def qTup (s : ByteArray) : ByteArray × ByteArray × ByteArray × ByteArray × Int × Bool × Bool :=
  ((qOf s).1, (qOf s).2.1, (qOf s).2.2.1, (qOf s).2.2.2.1, ((qOf s).2.2.2.2.1 : Int), (qOf s).2.2.2.2.2.1, (qOf s).2.2.2.2.2.2)

theorem qa_impl {s : ByteArray} (h : s.size ≤ 140737488351232) : impl_GjQuery.f s = some (qTup s) := by
  unfold impl_GjQuery.f gjson_DoorQuery.f gjson_parseQuery.f
  rw [if_pos h]
  rfl

theorem qa_one : (qOf (⟨#[35, 40, 97, 41]⟩ : ByteArray)).2.2.2.2.2.2 = true ∧ (qOf (⟨#[35, 40, 97, 41]⟩ : ByteArray)).1.data.toList = [97] := by decide +kernel

theorem qa_second : ((impl_GjQuery.f (⟨#[35, 40, 97, 41]⟩ : ByteArray)).bind fun bt122 => (if bt122.2.2.2.2.2.2 = true then (some (bt122.1.toList == ([97] : List UInt8))) else (some false))) = some true := by
  rw [qa_impl (by decide)]
  simp only [Option.bind_some]
  unfold qTup
  dsimp only
  rw [if_pos qa_one.1, Go.ByteArray.toList_eq, qa_one.2]
  rfl

theorem qa_wrap {x : Int} (h0 : -9223372036854775808 ≤ x) (h : x ≤ 9223372036854775807) : wrap64 x = x := by unfold wrap64; omega

theorem qa_end (k : Nat) (s : ByteArray) (hn : s.size ≤ 4096) (i : Nat) (hi : i < s.size) (h3 : byteAt s i = 93 ∨ byteAt s i = 41) : laws_FnGjQueryAny.j0 (k + 1) s ((i + 1 : Nat) : Int) false = some true := by
  have w1 : wrap64 (((i + 1 : Nat) : Int) - 1) = (i : Int) := by rw [qa_wrap (by omega) (by omega)]; omega
  simp only [laws_FnGjQueryAny.j0]
  rw [if_neg (by simp), w1, if_pos (by omega), if_pos (by omega), qa_bt hi]
  by_cases c : (byteAt s i : Int) = 41
  · rw [if_pos c]; exact qa_second
  · rw [if_neg c, if_pos (by omega)]; exact qa_second

theorem FnGjQueryAny : laws_FnGjQueryAny.Pure := by
  intro s hs
  refine ⟨1, ?_⟩
  unfold laws_FnGjQueryAny.f
  by_cases h1 : (s.size : Int) > 2147483647
  · rw [if_pos h1]
  rw [if_neg h1]
  by_cases h2 : (s.size : Int) > 4096
  · rw [if_pos h2]
  rw [if_neg h2, qa_impl hs]
  simp only [Option.bind_some]
  unfold qTup
  dsimp only
  by_cases hok : (qOf s).2.2.2.2.2.2 = true
  · rw [if_pos hok]
    obtain ⟨hq, i, i1, i2, i3, i4, i5⟩ := qOf_ok hok
    have hh : 2 ≤ s.size ∧ byteAt s 0 = 35 ∧ (byteAt s 1 = 40 ∨ byteAt s 1 = 91) := by
      unfold qHead at hq
      simpa [and_assoc] using hq
    obtain ⟨q1, q2, q3⟩ := hh
    have b0 : bt s 0 = (byteAt s 0 : Int) := qa_bt (i := 0) (by omega)
    have b1 : bt s 1 = (byteAt s 1 : Int) := qa_bt (i := 1) (by omega)
    have e : ((s.extract (i + 1) s.size).toList != (s.extract (((i + 1 : Nat) : Int)).toNat s.size).toList) = false := by simp
    rw [i4, i5, e, if_neg (by omega), if_pos (by omega), b0, if_pos (by omega), if_pos (by omega), b1]
    by_cases c : (byteAt s 1 : Int) = 40
    · rw [if_pos c, if_neg (by omega), if_neg (by omega), if_pos (by omega), if_pos (by omega)]
      exact qa_end 0 s (by omega) i i2 i3
    · rw [if_neg c, if_pos (by omega), if_neg (by omega), if_neg (by omega), if_pos (by omega), if_pos (by omega)]
      exact qa_end 0 s (by omega) i i2 i3
  · rw [if_neg hok]
    exact qa_second

end Go.Proofs.Ytifcmhekpbfboaa.Pure
