/- The pure statement of FnGjQueryOpen: "#(name)" is the query of that name; a text that begins otherwise, and one whose parenthesis is not closed, is none. No condition beyond the statement's own. -/
import Derived.Test.YtifcmhekpbfboaaMFnGjQueryOpen2
namespace Go.Proofs.Ytifcmhekpbfboaa.Pure
open Go.RowKit Go.Proofs.Ytifcmhekpbfboaa.MFnGjQueryOpen Go.Proofs.YtifcmhekpbfboaaW.PrintWords Go.Proofs.YtifcmhekpbfboaaW.PrintLast

theorem qo_wrap {x : Int} (h0 : -9223372036854775808 ≤ x) (h : x ≤ 9223372036854775807) : wrap64 x = x := by unfold wrap64; omega
theorem qo_bt {s : ByteArray} {i : Nat} (h : i < s.size) : bt s (i : Int) = (byteAt s i : Int) := by
  unfold bt byteAt
  rw [dif_pos (by simpa using h), dif_pos h]
  simp
def qoTup (s : ByteArray) : ByteArray × ByteArray × ByteArray × ByteArray × Int × Bool × Bool :=
  ((qOf s).1, (qOf s).2.1, (qOf s).2.2.1, (qOf s).2.2.2.1, ((qOf s).2.2.2.2.1 : Int), (qOf s).2.2.2.2.2.1, (qOf s).2.2.2.2.2.2)
theorem qo_impl {s : ByteArray} (h : s.size ≤ 140737488351232) : impl_GjQuery.f s = some (qoTup s) := by
  unfold impl_GjQuery.f gjson_DoorQuery.f gjson_parseQuery.f
  rw [if_pos h]
  rfl

def wordN (c : Nat) : Prop := (97 ≤ c ∧ c ≤ 122) ∨ (65 ≤ c ∧ c ≤ 90) ∨ (48 ≤ c ∧ c ≤ 57) ∨ c = 95

theorem qo_word (s : ByteArray) (hn : s.size ≤ 2147483647) : ∀ (d k i : Nat), i ≤ s.size → s.size - i = d → d < k →
    ∃ b, laws_gjWord.l0 k s (i : Int) = some b ∧ (b = true → (∀ p, i ≤ p → p < s.size → wordN (byteAt s p)) ∧ 0 < s.size) := by
  intro d
  induction d with
  | zero =>
    intro k i h1 hd hk
    obtain ⟨k, rfl⟩ : ∃ m, k = m + 1 := ⟨k - 1, by omega⟩
    simp only [laws_gjWord.l0]
    rw [if_neg (by omega)]
    refine ⟨_, rfl, fun h => ⟨fun p h1 h2 => by omega, ?_⟩⟩
    rcases Nat.eq_zero_or_pos s.size with h0 | h0
    · exfalso
      rw [Go.ByteArray.toList_eq] at h
      have : s.data.toList = [] := List.eq_nil_of_length_eq_zero (by rw [Array.length_toList]; exact h0)
      rw [this] at h
      simp at h
    · exact h0
  | succ d ih =>
    intro k i h1 hd hk
    obtain ⟨k, rfl⟩ : ∃ m, k = m + 1 := ⟨k - 1, by omega⟩
    have hlt : i < s.size := by omega
    have w1 : wrap64 ((i : Int) + 1) = ((i + 1 : Nat) : Int) := by rw [qo_wrap (by omega) (by omega)]; omega
    have go : wordN (byteAt s i) → ∃ b, laws_gjWord.l0 k s ((i + 1 : Nat) : Int) = some b ∧ (b = true → (∀ p, i ≤ p → p < s.size → wordN (byteAt s p)) ∧ 0 < s.size) := by
      intro hw
      obtain ⟨b, hb, h⟩ := ih k (i + 1) (by omega) (by omega) (by omega)
      refine ⟨b, hb, fun hb => ⟨fun p hp hp2 => ?_, (h hb).2⟩⟩
      by_cases e : p = i
      · rw [e]; exact hw
      · exact (h hb).1 p (by omega) hp2
    simp only [laws_gjWord.l0]
    rw [if_pos (by omega), if_pos (by omega), w1, qo_bt hlt]
    generalize byteAt s i = c at go
    repeat' split
    all_goals first | exact go (by unfold wordN; omega) | exact ⟨false, rfl, by simp⟩

/-- A stretch without brackets, quotation marks, backslashes leaves the depth. -/
theorem qo_plain (s : ByteArray) : ∀ (k i j : Nat) (v : Bool), (∀ p, i ≤ p → p < s.size → byteAt s p ≠ 34 ∧ byteAt s p ≠ 92 ∧ byteAt s p ≠ 40 ∧ byteAt s p ≠ 41 ∧ byteAt s p ≠ 91 ∧ byteAt s p ≠ 93) → (qLoop s k i j 1 v).2.2.1 = 1
  | 0, i, j, v, _ => rfl
  | k + 1, i, j, v, h => by
    unfold qLoop
    split
    · rename_i hlt
      obtain ⟨a1, a2, a3, a4, a5, a6⟩ := h i (by omega) hlt
      have hn : ∀ j v, (qLoop s k (i + 1) j 1 v).2.2.1 = 1 := fun j v => qo_plain s k (i + 1) j v fun p h1 h2 => h p (by omega) h2
      split
      · exact hn _ _
      · rw [if_neg (by omega), if_neg (by omega)]
        exact hn _ _
    · rfl

theorem qo_no {s : ByteArray} (h : qHead s = false) : (qOf s).2.2.2.2.2.2 = false := by unfold qOf; rw [h]; rfl
theorem qo_open {s : ByteArray} (h : ∀ p, 2 ≤ p → p < s.size → byteAt s p ≠ 34 ∧ byteAt s p ≠ 92 ∧ byteAt s p ≠ 40 ∧ byteAt s p ≠ 41 ∧ byteAt s p ≠ 91 ∧ byteAt s p ≠ 93) : (qOf s).2.2.2.2.2.2 = false := by
  unfold qOf
  split
  · unfold qEnd
    rw [qo_plain s (s.size + 2) 2 0 false h]
    rw [if_pos (by omega)]
  · rfl

/-- A word, then the parenthesis that closes. -/
theorem qo_name (s : ByteArray) (n : Nat) (hn : n < s.size) (hc : byteAt s n = 41) : ∀ (d k i : Nat), i ≤ n → n - i = d → d < k → (∀ p, i ≤ p → p < n → wordN (byteAt s p)) → qLoop s k i 0 1 false = (n, 0, 0, false)
  | 0, k, i, h1, hd, hk, hw => by
    obtain ⟨k, rfl⟩ : ∃ m, k = m + 1 := ⟨k - 1, by omega⟩
    obtain rfl : i = n := by omega
    unfold qLoop
    rw [if_pos hn, if_neg (by rw [hc]; decide), if_neg (by omega), if_neg (by omega), if_pos (by omega), if_pos rfl]
  | d + 1, k, i, h1, hd, hk, hw => by
    obtain ⟨k, rfl⟩ : ∃ m, k = m + 1 := ⟨k - 1, by omega⟩
    have hi := hw i (by omega) (by omega)
    unfold wordN at hi
    unfold qLoop
    rw [if_pos (by omega), if_neg (by unfold qOp; simp; omega), if_neg (by omega), if_neg (by omega), if_neg (by omega), if_neg (by omega)]
    exact qo_name s n hn hc d k (i + 1) (by omega) (by omega) (by omega) fun p a b => hw p (by omega) b

/-- A word has nothing that is trimmed. -/
theorem qo_trim {s : ByteArray} (h0 : 0 < s.size) (hw : ∀ p, p < s.size → 32 < byteAt s p) : trimS s = s := by
  have e : ∀ (p : Nat) (h : p < s.size), ¬ s[p] ≤ 32 := by
    intro p h hle
    have := hw p h
    rw [← byteAt_eq h] at this
    have h3 : s[p].toNat ≤ 32 := UInt8.le_iff_toNat_le.1 hle
    omega
  rw [trimS_left (trimA_stop h0 (e 0 h0)), trimZ_stop h0 (e _ _)]

theorem qo_at1 (a b : ByteArray) (i : Nat) (h : i < a.size) : byteAt (a ++ b) i = byteAt a i := by
  unfold byteAt
  rw [dif_pos h, dif_pos (by rw [ByteArray.size_append]; omega), ByteArray.getElem_append_left h]
theorem qo_at2 (a b : ByteArray) (i : Nat) : byteAt (a ++ b) (a.size + i) = byteAt b i := by
  unfold byteAt
  by_cases h : i < b.size
  · rw [dif_pos h, dif_pos (by rw [ByteArray.size_append]; omega), ByteArray.getElem_append_right (by omega)]
    congr 2
    omega
  · rw [dif_neg h, dif_neg (by rw [ByteArray.size_append]; omega)]

theorem qo_query (a : ByteArray) (h0 : 0 < a.size) (hw : ∀ p, p < a.size → wordN (byteAt a p)) :
    qOf ((⟨#[35, 40]⟩ : ByteArray) ++ a ++ (⟨#[41]⟩ : ByteArray)) = (a, ⟨#[]⟩, ⟨#[]⟩, ((⟨#[35, 40]⟩ : ByteArray) ++ a ++ (⟨#[41]⟩ : ByteArray)).extract (2 + a.size + 1) ((⟨#[35, 40]⟩ : ByteArray) ++ a ++ (⟨#[41]⟩ : ByteArray)).size, 2 + a.size + 1, false, true) := by
  have z1 : (⟨#[35, 40]⟩ : ByteArray).size = 2 := rfl
  have z2 : (⟨#[41]⟩ : ByteArray).size = 1 := rfl
  generalize hs : (⟨#[35, 40]⟩ : ByteArray) ++ a ++ (⟨#[41]⟩ : ByteArray) = s
  have hz : s.size = 2 + a.size + 1 := by rw [← hs, ByteArray.size_append, ByteArray.size_append, z1, z2]
  have hin : ∀ p, p < a.size → byteAt s (2 + p) = byteAt a p := fun p hp => by
    rw [← hs, qo_at1 _ _ _ (by rw [ByteArray.size_append, z1]; omega)]
    exact qo_at2 (⟨#[35, 40]⟩ : ByteArray) a p
  have hl : byteAt s (2 + a.size) = 41 := by
    have := qo_at2 ((⟨#[35, 40]⟩ : ByteArray) ++ a) (⟨#[41]⟩ : ByteArray) 0
    rw [ByteArray.size_append, z1, hs] at this
    exact this
  have hb0 : byteAt s 0 = 35 := by rw [← hs, qo_at1 _ _ _ (by rw [ByteArray.size_append, z1]; omega), qo_at1 _ _ _ (by rw [z1]; omega)]; rfl
  have hb1 : byteAt s 1 = 40 := by rw [← hs, qo_at1 _ _ _ (by rw [ByteArray.size_append, z1]; omega), qo_at1 _ _ _ (by rw [z1]; omega)]; rfl
  have hq : qHead s = true := by unfold qHead; rw [hb0, hb1]; simp; omega
  have hloop := qo_name s (2 + a.size) (by omega) hl a.size (s.size + 2) 2 (by omega) (by omega) (by omega) (fun p h1 h2 => by
    have := hin (p - 2) (by omega)
    rw [show 2 + (p - 2) = p by omega] at this
    rw [this]
    exact hw _ (by omega))
  have hx : s.extract 2 (2 + a.size) = a := by
    rw [← hs]
    apply ByteArray.ext
    apply Array.ext'
    simp [ByteArray.data_append, ByteArray.data_extract]
  unfold qOf
  rw [if_pos hq, hloop]
  unfold qEnd
  rw [if_neg (by dsimp only; omega), if_neg (by dsimp only; omega)]
  dsimp only
  rw [hx, qo_trim h0 fun p hp => by have := hw p hp; unfold wordN at this; omega]

theorem qo_l0 (s : ByteArray) (hn : s.size ≤ 4096) (hq : qHead s = false) : ∀ (d k i : Nat), i ≤ s.size → s.size - i = d → d < k →
    (∀ p, p < i → byteAt s p ≠ 34 ∧ byteAt s p ≠ 92 ∧ byteAt s p ≠ 40 ∧ byteAt s p ≠ 41 ∧ byteAt s p ≠ 91 ∧ byteAt s p ≠ 93) → laws_FnGjQueryOpen.l0 k s (i : Int) = some true := by
  intro d
  induction d with
  | zero =>
    intro k i h1 hd hk h
    obtain ⟨k, rfl⟩ : ∃ m, k = m + 1 := ⟨k - 1, by omega⟩
    have z1 : (⟨#[35, 40]⟩ : ByteArray).size = 2 := rfl
    simp only [laws_FnGjQueryOpen.l0]
    rw [if_neg (by omega), qo_impl (by omega)]
    simp only [Option.bind_some]
    rw [if_pos (by omega), qo_impl (by rw [ByteArray.size_append, z1]; omega)]
    have e1 : (qoTup s).2.2.2.2.2.2 = false := qo_no hq
    have e2 : (qoTup ((⟨#[35, 40]⟩ : ByteArray) ++ s)).2.2.2.2.2.2 = false := qo_open fun p h1 h2 => by
      rw [ByteArray.size_append, z1] at h2
      have := qo_at2 (⟨#[35, 40]⟩ : ByteArray) s (p - 2)
      rw [z1, show 2 + (p - 2) = p by omega] at this
      rw [this]
      exact h (p - 2) (by omega)
    simp only [Option.bind_some]
    rw [e1, e2]
    rfl
  | succ d ih =>
    intro k i h1 hd hk h
    obtain ⟨k, rfl⟩ : ∃ m, k = m + 1 := ⟨k - 1, by omega⟩
    have hlt : i < s.size := by omega
    have w1 : wrap64 ((i : Int) + 1) = ((i + 1 : Nat) : Int) := by rw [qo_wrap (by omega) (by omega)]; omega
    simp only [laws_FnGjQueryOpen.l0]
    rw [if_pos (by omega), if_pos (by omega), w1, qo_bt hlt]
    by_cases c1 : (byteAt s i : Int) = 34
    · rw [if_pos c1]
    rw [if_neg c1]
    by_cases c2 : (byteAt s i : Int) = 92
    · rw [if_pos c2]
    rw [if_neg c2]
    by_cases c3 : (byteAt s i : Int) = 40
    · rw [if_pos c3]
    rw [if_neg c3]
    by_cases c4 : (byteAt s i : Int) = 41
    · rw [if_pos c4]
    rw [if_neg c4]
    by_cases c5 : (byteAt s i : Int) = 91
    · rw [if_pos c5]
    rw [if_neg c5]
    by_cases c6 : (byteAt s i : Int) = 93
    · rw [if_pos c6]
    rw [if_neg c6]
    refine ih k (i + 1) (by omega) (by omega) (by omega) fun p hp => ?_
    by_cases e : p = i
    · rw [e]; omega
    · exact h p (by omega)

theorem qo_j3 (s : ByteArray) (hn : s.size ≤ 4096) (k : Nat) (hk : s.size + 3 ≤ k) : laws_FnGjQueryOpen.j2 (k + 1) s false = some true := by
  obtain ⟨k, rfl⟩ : ∃ m, k = m + 1 := ⟨k - 1, by omega⟩
  have yes : ∀ b, b = true → laws_FnGjQueryOpen.j3 (k + 1) s b = some true := fun b hb => by subst hb; simp only [laws_FnGjQueryOpen.j3]; rfl
  have no : qHead s = false → ∀ b, b = false → laws_FnGjQueryOpen.j3 (k + 1) s b = some true := fun hq b hb => by
    subst hb
    simp only [laws_FnGjQueryOpen.j3]
    rw [if_neg (by simp)]
    exact qo_l0 s hn hq s.size k 0 (by omega) (by omega) (by omega) fun p hp => by omega
  generalize k + 1 = K at yes no
  simp only [laws_FnGjQueryOpen.j2]
  rw [if_neg (by simp)]
  by_cases h2 : (s.size : Int) ≥ 2
  · have b0 : bt s 0 = (byteAt s 0 : Int) := qo_bt (i := 0) (by omega)
    have b1 : bt s 1 = (byteAt s 1 : Int) := qo_bt (i := 1) (by omega)
    rw [if_pos h2, if_pos (by omega), b0]
    by_cases c0 : (byteAt s 0 : Int) = 35
    · rw [if_pos c0, if_pos (by omega), b1]
      by_cases c1 : (byteAt s 1 : Int) = 40
      · rw [if_pos c1]; exact yes _ rfl
      · rw [if_neg c1]
        by_cases c2 : (byteAt s 1 : Int) = 91
        · exact yes _ (by rw [c2]; rfl)
        · refine no ?_ _ (by simpa using c2)
          unfold qHead
          have e1 : (byteAt s 1 == 40) = false := by simp only [beq_eq_false_iff_ne]; omega
          have e2 : (byteAt s 1 == 91) = false := by simp only [beq_eq_false_iff_ne]; omega
          rw [e1, e2]; simp
    · rw [if_neg c0]
      refine no ?_ _ rfl
      unfold qHead
      have e1 : (byteAt s 0 == 35) = false := by simp only [beq_eq_false_iff_ne]; omega
      rw [e1]; simp
  · rw [if_neg h2]
    refine no ?_ _ rfl
    unfold qHead
    have e1 : decide (2 ≤ s.size) = false := decide_eq_false (by omega)
    rw [e1]; rfl

theorem FnGjQueryOpen : laws_FnGjQueryOpen.Pure := by
  intro s a hs ha
  by_cases hbig : (s.size : Int) > 2147483647 ∨ (a.size : Int) > 2147483647
  · refine ⟨1, ?_⟩
    unfold laws_FnGjQueryOpen.f
    by_cases h1 : (s.size : Int) > 2147483647
    · rw [if_pos h1]; simp only [laws_FnGjQueryOpen.j0]; rfl
    · have h2 : decide ((a.size : Int) > 2147483647) = true := decide_eq_true (by omega)
      rw [if_neg h1, h2]; simp only [laws_FnGjQueryOpen.j0]; rfl
  · refine ⟨s.size + a.size + 10, ?_⟩
    have h1 : ¬ (s.size : Int) > 2147483647 := fun h => hbig (Or.inl h)
    have h2 : decide ((a.size : Int) > 2147483647) = false := decide_eq_false fun h => hbig (Or.inr h)
    unfold laws_FnGjQueryOpen.f
    rw [if_neg h1, h2]
    obtain ⟨b, hb, hw⟩ := qo_word a (by omega) a.size (s.size + a.size + 9) 0 (by omega) (by omega) (by omega)
    have hf : laws_gjWord.f (s.size + a.size + 9) a = some b := hb
    have yes : ∀ c, c = true → laws_FnGjQueryOpen.j1 (s.size + a.size + 9) s a c = some true := fun c hc => by subst hc; simp only [laws_FnGjQueryOpen.j1]; rfl
    rw [show s.size + a.size + 10 = (s.size + a.size + 9) + 1 from rfl]
    generalize hK : s.size + a.size + 9 = K at hb hf yes
    simp only [laws_FnGjQueryOpen.j0]
    rw [if_neg (by simp)]
    by_cases h3 : (s.size : Int) > 4096
    · rw [if_pos h3]; exact yes _ rfl
    rw [if_neg h3, hf]
    simp only [Option.bind_some]
    cases b with
    | false => exact yes _ rfl
    | true =>
      obtain ⟨hw1, hw2⟩ := hw rfl
      have z1 : (⟨#[35, 40]⟩ : ByteArray).size = 2 := rfl
      have z2 : (⟨#[41]⟩ : ByteArray).size = 1 := rfl
      obtain ⟨K, rfl⟩ : ∃ m, K = m + 2 := ⟨K - 2, by omega⟩
      have key := qo_j3 s (by omega) K (by omega)
      rw [show K + 2 = (K + 1) + 1 from rfl]
      generalize K + 1 = K1 at key
      simp only [laws_FnGjQueryOpen.j1]
      rw [if_neg (by simp), if_pos (by omega), if_pos (by rw [ByteArray.size_append, z1]; omega), qo_impl (by rw [ByteArray.size_append, ByteArray.size_append, z1, z2]; omega)]
      simp only [Option.bind_some]
      unfold qoTup
      rw [qo_query a hw2 fun p hp => hw1 p (by omega) hp]
      dsimp only
      rw [if_pos rfl, if_pos rfl]
      have e : ((⟨#[]⟩ : ByteArray).toList != ([] : List UInt8)) = false := by rw [Go.ByteArray.toList_eq]; rfl
      rw [e]
      exact key

end Go.Proofs.Ytifcmhekpbfboaa.Pure
