/- The pure statement of FnSjPathOften: a path of keys comes apart into the keys. No condition beyond the statement's own. -/
import Derived.Test.YtifcmhekpbfboaaMFnSjPathOften3
namespace Go.Proofs.Ytifcmhekpbfboaa.Pure
open Go.RowKit Go.Proofs.Ytifcmhekpbfboaa Go.Proofs.Ytifcmhekpbfboaa.MFnSjPathOften Go.Proofs.YtifcmhekpbfboaaW.PrintWords Go.Proofs.YtifcmhekpbfboaaW.PrintLast

/-- With enough rounds. -/
def Ev {α : Type} (f : Nat → Option α) (r : α) : Prop := ∃ K, ∀ k, K ≤ k → f k = some r
theorem Ev.const {α : Type} {f : Nat → Option α} {r : α} (h : ∀ k, f k = some r) : Ev f r := ⟨0, fun k _ => h k⟩
theorem Ev.succ {α : Type} {f : Nat → Option α} {r : α} (h : Ev (fun k => f (k + 1)) r) : Ev f r := by
  obtain ⟨K, h⟩ := h
  refine ⟨K + 1, fun k hk => ?_⟩
  obtain ⟨m, rfl⟩ : ∃ m, k = m + 1 := ⟨k - 1, by omega⟩
  exact h m (by omega)
theorem Ev.congr {α : Type} {f g : Nat → Option α} {r : α} (h : Ev g r) (e : ∀ k, f k = g k) : Ev f r := by
  obtain ⟨K, h⟩ := h
  exact ⟨K, fun k hk => (e k).trans (h k hk)⟩
theorem Ev.bind {α β : Type} {f : Nat → Option α} {g : Nat → α → Option β} {a : α} {r : β} (h : Ev f a) (h2 : Ev (fun k => g k a) r) : Ev (fun k => (f k).bind (g k)) r := by
  obtain ⟨K, h⟩ := h
  obtain ⟨L, h2⟩ := h2
  refine ⟨max K L, fun k hk => ?_⟩
  simp only [h k (by omega), Option.bind_some]
  exact h2 k (by omega)

theorem w64 {n : Int} (h : 0 ≤ n) (h2 : n ≤ 9223372036854775807) : wrap64 n = n := by unfold wrap64; omega

theorem high_total (c : Int) : ∃ b, spec_high.f c = some b := by
  unfold spec_high.f
  split <;> exact ⟨_, rfl⟩
theorem low_total (c : Int) : ∃ b, spec_low.f c = some b := by
  unfold spec_low.f
  split <;> exact ⟨_, rfl⟩

theorem ch_loop (s : ByteArray) (hs : s.size ≤ 2147483647) (a1 x8 x9 : Int) (h0 : 0 ≤ a1) (h8 : 0 ≤ x8) (h83 : x8 ≤ 3) (hr : a1 + x8 < s.size) :
    ∀ (m : Nat) (x7 x10 : Int), 1 ≤ x10 → x10 ≤ x8 + 1 → (x8 + 1 - x10).toNat = m → ∃ r, Ev (fun k => spec_Character.l0 k s a1 x7 x8 x9 x10) r ∧ 1 ≤ r.2.1 ∧ r.2.1 ≤ 4 := by
  intro m
  induction m with
  | zero =>
    intro x7 x10 h1 h2 hm
    have hc : ¬ x10 ≤ x8 := by omega
    obtain ⟨b1, e1⟩ := high_total x7
    obtain ⟨b2, e2⟩ := low_total x7
    have hw : wrap64 (x8 + 1) = x8 + 1 := w64 (by omega) (by omega)
    by_cases c1 : x7 < x9
    · exact ⟨(65533, 1, false), .succ (.const fun k => by simp only [spec_Character.l0]; rw [if_neg hc, if_pos c1]), by decide, by decide⟩
    · by_cases c2 : x7 > 1114111
      · exact ⟨(65533, 1, false), .succ (.const fun k => by simp only [spec_Character.l0]; rw [if_neg hc, if_neg c1, if_pos c2]), by decide, by decide⟩
      · cases b1 with
        | true => exact ⟨(65533, 1, false), .succ (.const fun k => by simp only [spec_Character.l0]; rw [if_neg hc, if_neg c1, if_neg c2, e1]; rfl), by decide, by decide⟩
        | false =>
          cases b2 with
          | true => exact ⟨(65533, 1, false), .succ (.const fun k => by simp only [spec_Character.l0]; rw [if_neg hc, if_neg c1, if_neg c2, e1, e2]; rfl), by decide, by decide⟩
          | false => exact ⟨(x7, wrap64 (x8 + 1), true), .succ (.const fun k => by simp only [spec_Character.l0]; rw [if_neg hc, if_neg c1, if_neg c2, e1, e2]; rfl), by simp only [hw]; omega, by simp only [hw]; omega⟩
  | succ m ih =>
    intro x7 x10 h1 h2 hm
    have hc : x10 ≤ x8 := by omega
    have hw : wrap64 (a1 + x10) = a1 + x10 := w64 (by omega) (by omega)
    have hw2 : wrap64 (x10 + 1) = x10 + 1 := w64 (by omega) (by omega)
    have q1 : 0 ≤ a1 + x10 := by omega
    have q2 : a1 + x10 < (s.size : Int) := by omega
    by_cases c1 : wrap64 (bt s (a1 + x10)) < 128
    · exact ⟨(65533, 1, false), .succ (.const fun k => by simp only [spec_Character.l0, hw]; rw [if_pos hc, if_pos q1, if_pos q2, if_pos c1]), by decide, by decide⟩
    · by_cases c2 : wrap64 (bt s (a1 + x10)) > 191
      · exact ⟨(65533, 1, false), .succ (.const fun k => by simp only [spec_Character.l0, hw]; rw [if_pos hc, if_pos q1, if_pos q2, if_neg c1, if_pos c2]), by decide, by decide⟩
      · obtain ⟨r, hr1, hr2⟩ := ih (wrap64 ((wrap64 ((wrap64 (x7 * 64)) + (wrap64 (bt s (a1 + x10))))) - 128)) (x10 + 1) (by omega) (by omega) (by omega)
        exact ⟨r, .succ (hr1.congr fun k => by simp only [spec_Character.l0, hw, hw2]; rw [if_pos hc, if_pos q1, if_pos q2, if_neg c1, if_neg c2]), hr2⟩

theorem ch_more (s : ByteArray) (hs : s.size ≤ 2147483647) (a1 x7 x8 x9 : Int) (h0 : 0 ≤ a1) (h1 : a1 < s.size) (h8 : 0 ≤ x8) (h83 : x8 ≤ 3) :
    ∃ r, Ev (fun k => spec_Character.j2 k s a1 x7 x8 x9) r ∧ 1 ≤ r.2.1 ∧ r.2.1 ≤ 4 := by
  have hw : wrap64 ((s.size : Int) - a1) = (s.size : Int) - a1 := w64 (by omega) (by omega)
  by_cases c : (s.size : Int) - a1 ≤ x8
  · exact ⟨(65533, 1, false), .succ (.const fun k => by simp only [spec_Character.j2, hw]; rw [if_pos c]), by decide, by decide⟩
  · obtain ⟨r, hr, hr2⟩ := ch_loop s hs a1 x8 x9 h0 h8 h83 (by omega) (x8 + 1 - 1).toNat x7 1 (by omega) (by omega) rfl
    exact ⟨r, .succ (hr.congr fun k => by simp only [spec_Character.j2, hw]; rw [if_neg c]), hr2⟩

theorem ch_total (s : ByteArray) (hs : s.size ≤ 2147483647) (a1 : Int) (h0 : 0 ≤ a1) (h1 : a1 < s.size) : ∃ r, Ev (fun k => spec_Character.f k s a1) r ∧ 1 ≤ r.2.1 ∧ r.2.1 ≤ 4 := by
  by_cases c1 : wrap64 (bt s a1) < 128
  · exact ⟨(wrap64 (bt s a1), 1, true), .const fun k => by simp only [spec_Character.f]; rw [if_pos h0, if_pos h1, if_pos c1], by simp, by simp⟩
  · have J1 : ∀ b, ∃ r, Ev (fun k => spec_Character.j1 k s a1 (wrap64 (bt s a1)) b) r ∧ 1 ≤ r.2.1 ∧ r.2.1 ≤ 4 := by
      intro b
      cases b with
      | true =>
        obtain ⟨r, hr, hr2⟩ := ch_more s hs a1 (wrap64 (wrap64 (bt s a1) - 224)) 2 2048 h0 h1 (by omega) (by omega)
        exact ⟨r, .succ (hr.congr fun k => by simp only [spec_Character.j1]; rfl), hr2⟩
      | false =>
        by_cases c2 : 240 ≤ wrap64 (bt s a1)
        · by_cases c3 : wrap64 (bt s a1) ≤ 244
          · obtain ⟨r, hr, hr2⟩ := ch_more s hs a1 (wrap64 (wrap64 (bt s a1) - 240)) 3 65536 h0 h1 (by omega) (by omega)
            exact ⟨r, .succ (hr.congr fun k => by simp only [spec_Character.j1]; rw [if_neg (by decide), if_pos c2, if_pos c3]), hr2⟩
          · exact ⟨(65533, 1, false), .succ (.const fun k => by simp only [spec_Character.j1]; rw [if_neg (by decide), if_pos c2, if_neg c3]), by decide, by decide⟩
        · exact ⟨(65533, 1, false), .succ (.const fun k => by simp only [spec_Character.j1]; rw [if_neg (by decide), if_neg c2]), by decide, by decide⟩
    have J0 : ∀ b, ∃ r, Ev (fun k => spec_Character.j0 k s a1 (wrap64 (bt s a1)) b) r ∧ 1 ≤ r.2.1 ∧ r.2.1 ≤ 4 := by
      intro b
      cases b with
      | true =>
        obtain ⟨r, hr, hr2⟩ := ch_more s hs a1 (wrap64 (wrap64 (bt s a1) - 192)) 1 128 h0 h1 (by omega) (by omega)
        exact ⟨r, .succ (hr.congr fun k => by simp only [spec_Character.j0]; rfl), hr2⟩
      | false =>
        by_cases c2 : 224 ≤ wrap64 (bt s a1)
        · obtain ⟨r, hr, hr2⟩ := J1 (decide (wrap64 (bt s a1) ≤ 239))
          exact ⟨r, .succ (hr.congr fun k => by simp only [spec_Character.j0]; rw [if_neg (by decide), if_pos c2]), hr2⟩
        · obtain ⟨r, hr, hr2⟩ := J1 false
          exact ⟨r, .succ (hr.congr fun k => by simp only [spec_Character.j0]; rw [if_neg (by decide), if_neg c2]), hr2⟩
    by_cases c2 : 194 ≤ wrap64 (bt s a1)
    · obtain ⟨r, hr, hr2⟩ := J0 (decide (wrap64 (bt s a1) ≤ 223))
      exact ⟨r, hr.congr fun k => by simp only [spec_Character.f]; rw [if_pos h0, if_pos h1, if_neg c1, if_pos c2], hr2⟩
    · obtain ⟨r, hr, hr2⟩ := J0 false
      exact ⟨r, hr.congr fun k => by simp only [spec_Character.f]; rw [if_pos h0, if_pos h1, if_neg c1, if_neg c2], hr2⟩

theorem utf8_loop (s : ByteArray) (hs : s.size ≤ 2147483647) : ∀ (m : Nat) (x3 : Int), 0 ≤ x3 → ((s.size : Int) - x3).toNat ≤ m → ∃ b, Ev (fun k => spec_UTF8.l0 k s x3) b := by
  intro m
  induction m with
  | zero =>
    intro x3 h0 hm
    exact ⟨true, .succ (.const fun k => by simp only [spec_UTF8.l0]; rw [if_neg (by omega)])⟩
  | succ m ih =>
    intro x3 h0 hm
    by_cases c : x3 < (s.size : Int)
    · obtain ⟨r, hr, hr1, hr2⟩ := ch_total s hs x3 h0 c
      cases hb : r.2.2 with
      | false =>
        refine ⟨false, .succ (Ev.congr (Ev.bind (g := fun k bt104 => if bt104.2.2 = true then (spec_UTF8.l0 k s (wrap64 (x3 + bt104.2.1))) else (some false)) hr (.const fun k => ?_)) fun k => ?_)⟩
        · simp only [hb]; rfl
        · simp only [spec_UTF8.l0]; rw [if_pos c]
      | true =>
        have hw : wrap64 (x3 + r.2.1) = x3 + r.2.1 := w64 (by omega) (by omega)
        obtain ⟨b, hb2⟩ := ih (x3 + r.2.1) (by omega) (by omega)
        refine ⟨b, .succ (Ev.congr (Ev.bind (g := fun k bt104 => if bt104.2.2 = true then (spec_UTF8.l0 k s (wrap64 (x3 + bt104.2.1))) else (some false)) hr (hb2.congr fun k => ?_)) fun k => ?_)⟩
        · simp only [hb, hw]; rfl
        · simp only [spec_UTF8.l0]; rw [if_pos c]
    · exact ⟨true, .succ (.const fun k => by simp only [spec_UTF8.l0]; rw [if_neg c])⟩

theorem utf8_total (s : ByteArray) (hs : s.size ≤ 2147483647) : ∃ b, Ev (fun k => spec_UTF8.f k s) b := utf8_loop s hs _ 0 (by omega) (Nat.le_refl _)

theorem rd_at {l : List ByteArray} {i : Nat} (h : i < l.length) : rdOf ByteArray.empty l (i : Int) = l[i] := by
  simp [rdOf, List.getD, h]

theorem zz_loop (l : List ByteArray) (hl : l.length ≤ 2147483647) : ∀ (d i : Nat), l.length - i = d → i ≤ l.length →
    ∃ b, Ev (fun k => laws_zzFits1.l0 k l (l.length : Int) (i : Int)) b ∧ (b = true → ∀ j (h : j < l.length), i ≤ j → l[j].size ≤ 2147483647) := by
  intro d
  induction d with
  | zero =>
    intro i hd hi
    exact ⟨true, .succ (.const fun k => by simp only [laws_zzFits1.l0]; rw [if_neg (by omega)]), fun _ j hj hij => by omega⟩
  | succ d ih =>
    intro i hd hi
    have hlt : i < l.length := by omega
    have hw : wrap64 ((i : Int) + 1) = ((i + 1 : Nat) : Int) := by rw [w64 (by omega) (by omega)]; omega
    by_cases c : (l[i].size : Int) > 2147483647
    · exact ⟨false, .succ (.const fun k => by simp only [laws_zzFits1.l0, rd_at hlt]; rw [if_pos (by omega), if_pos (by omega), if_pos (by omega), if_pos c]), fun h => by cases h⟩
    · obtain ⟨b, hb, hb2⟩ := ih (i + 1) (by omega) (by omega)
      refine ⟨b, .succ (hb.congr fun k => by simp only [laws_zzFits1.l0, rd_at hlt, hw]; rw [if_pos (by omega), if_pos (by omega), if_pos (by omega), if_neg c]), fun h j hj hij => ?_⟩
      rcases Nat.lt_or_ge i j with h1 | h1
      · exact hb2 h j hj h1
      · obtain rfl : i = j := by omega
        omega

theorem zz_total (l : List ByteArray) : ∃ b, Ev (fun k => laws_zzFits1.f k l) b ∧ (b = true → l.length ≤ 2147483647 ∧ ∀ j (h : j < l.length), l[j].size ≤ 2147483647) := by
  by_cases c : (l.length : Int) > 2147483647
  · exact ⟨false, .const fun k => by simp only [laws_zzFits1.f]; rw [if_pos c], fun h => by cases h⟩
  · obtain ⟨b, hb, hb2⟩ := zz_loop l (by omega) _ 0 rfl (by omega)
    exact ⟨b, hb.congr fun k => by simp only [laws_zzFits1.f]; rw [if_neg c]; rfl, fun h => ⟨by omega, fun j hj => hb2 h j hj (by omega)⟩⟩

theorem list_nil {s : ByteArray} (h : s.size = 0) : s.toList = ([] : List UInt8) := by
  have h1 : s = ByteArray.empty := ByteArray.size_eq_zero_iff.1 h
  have h2 : s.toList.isEmpty = true := by
    rw [← decide_eq_emptyBytes]
    exact decide_eq_true h1
  simpa using h2

def Good (l : List ByteArray) (i sum : Nat) : Prop := 0 < l.length ∧ l.length ≤ 32 ∧ ∀ j (h : j < l.length), i ≤ j → l[j].size ≠ 0 ∧ sum + l[j].size ≤ 4096

theorem keys_loop (l : List ByteArray) (hl : l.length ≤ 2147483647) (hz : ∀ j (h : j < l.length), l[j].size ≤ 2147483647) : ∀ (d i sum : Nat), l.length - i = d → i ≤ l.length → sum ≤ i * 2147483647 →
    ∃ b, Ev (fun k => laws_sjKeys.l0 k l (sum : Int) l (l.length : Int) (i : Int)) b ∧ (b = true → Good l i sum ∧ sum ≤ 4096) := by
  intro d
  induction d with
  | zero =>
    intro i sum hd hi hsum
    by_cases c1 : (l.length : Int) > 0
    · by_cases c2 : (l.length : Int) ≤ 32
      · refine ⟨decide ((sum : Int) ≤ 4096), .succ (.const fun k => by simp only [laws_sjKeys.l0]; rw [if_neg (by omega), if_pos c1, if_pos c2]), fun h => ⟨⟨by omega, by omega, fun j hj hij => by omega⟩, ?_⟩⟩
        have := of_decide_eq_true h
        omega
      · exact ⟨false, .succ (.const fun k => by simp only [laws_sjKeys.l0]; rw [if_neg (by omega), if_pos c1, if_neg c2]), fun h => by cases h⟩
    · exact ⟨false, .succ (.const fun k => by simp only [laws_sjKeys.l0]; rw [if_neg (by omega), if_neg c1]), fun h => by cases h⟩
  | succ d ih =>
    intro i sum hd hi hsum
    have hlt : i < l.length := by omega
    have hzi := hz i hlt
    have hw : wrap64 ((i : Int) + 1) = ((i + 1 : Nat) : Int) := by rw [w64 (by omega) (by omega)]; omega
    have hws : wrap64 ((sum : Int) + (l[i].size : Int)) = ((sum + l[i].size : Nat) : Int) := by rw [w64 (by omega) (by omega)]; omega
    have p1 : (i : Int) < (l.length : Int) := by omega
    have p2 : 0 ≤ (i : Int) := by omega
    by_cases ce : l[i].toList = ([] : List UInt8)
    · exact ⟨false, .succ (.const fun k => by simp only [laws_sjKeys.l0, rd_at hlt]; rw [if_pos p1, if_pos p2, if_pos p1, if_pos ce]), fun h => by cases h⟩
    · obtain ⟨b1, hb1⟩ := utf8_total l[i] hzi
      obtain ⟨K1, hb1⟩ := hb1
      have hne : l[i].size ≠ 0 := fun h => ce (list_nil h)
      cases b1 with
      | false => exact ⟨false, .succ ⟨K1, fun k hk => by simp only [laws_sjKeys.l0, rd_at hlt, hb1 k hk, Option.bind_some]; rw [if_pos p1, if_pos p2, if_pos p1, if_neg ce]; rfl⟩, fun h => by cases h⟩
      | true =>
        obtain ⟨b, ⟨K2, hb⟩, hb2⟩ := ih (i + 1) (sum + l[i].size) (by omega) (by omega) (by omega)
        have good : b = true → Good l i sum ∧ sum ≤ 4096 := fun h => by
          obtain ⟨⟨g1, g2, g3⟩, g4⟩ := hb2 h
          refine ⟨⟨g1, g2, fun j hj hij => ?_⟩, by omega⟩
          rcases Nat.lt_or_ge i j with h1 | h1
          · have := g3 j hj h1
            exact ⟨this.1, by omega⟩
          · obtain rfl : i = j := by omega
            exact ⟨hne, g4⟩
        by_cases c1 : (l[i].size : Int) > 1
        · by_cases c2 : bt l[i] 0 = 48
          · by_cases c3 : 48 ≤ bt l[i] 1
            · by_cases c4 : bt l[i] 1 ≤ 57
              · exact ⟨false, .succ ⟨K1, fun k hk => by simp only [laws_sjKeys.l0, rd_at hlt, hb1 k hk, Option.bind_some]; rw [if_pos p1, if_pos p2, if_pos p1, if_neg ce, if_pos trivial, if_pos c1, if_pos (by omega), if_pos c2, if_pos (by omega), if_pos c3, if_pos c4]⟩, fun h => by cases h⟩
              · exact ⟨b, .succ ⟨max K1 K2, fun k hk => by simp only [laws_sjKeys.l0, rd_at hlt, hb1 k (by omega), Option.bind_some, hw, hws, hb k (by omega)]; rw [if_pos p1, if_pos p2, if_pos p1, if_neg ce, if_pos trivial, if_pos c1, if_pos (by omega), if_pos c2, if_pos (by omega), if_pos c3, if_neg c4]⟩, good⟩
            · exact ⟨b, .succ ⟨max K1 K2, fun k hk => by simp only [laws_sjKeys.l0, rd_at hlt, hb1 k (by omega), Option.bind_some, hw, hws, hb k (by omega)]; rw [if_pos p1, if_pos p2, if_pos p1, if_neg ce, if_pos trivial, if_pos c1, if_pos (by omega), if_pos c2, if_pos (by omega), if_neg c3]⟩, good⟩
          · exact ⟨b, .succ ⟨max K1 K2, fun k hk => by simp only [laws_sjKeys.l0, rd_at hlt, hb1 k (by omega), Option.bind_some, hw, hws, hb k (by omega)]; rw [if_pos p1, if_pos p2, if_pos p1, if_neg ce, if_pos trivial, if_pos c1, if_pos (by omega), if_neg c2]⟩, good⟩
        · exact ⟨b, .succ ⟨max K1 K2, fun k hk => by simp only [laws_sjKeys.l0, rd_at hlt, hb1 k (by omega), Option.bind_some, hw, hws, hb k (by omega)]; rw [if_pos p1, if_pos p2, if_pos p1, if_neg ce, if_pos trivial, if_neg c1]⟩, good⟩

/-- A path's plain bytes. -/
def PB (c : UInt8) : Bool := decide ((97 ≤ c.toNat ∧ c.toNat ≤ 122) ∨ (65 ≤ c.toNat ∧ c.toNat ≤ 90) ∨ (48 ≤ c.toNat ∧ c.toNat ≤ 57) ∨ c.toNat = 95 ∨ c.toNat = 45 ∨ c.toNat = 32 ∨ 128 ≤ c.toNat)

theorem letter_f (n : Nat) : spec_letter.f (n : Int) = some (decide ((97 ≤ n ∧ n ≤ 122) ∨ (65 ≤ n ∧ n ≤ 90) ∨ (48 ≤ n ∧ n ≤ 57) ∨ n = 95)) := by
  unfold spec_letter.f
  repeat' split
  all_goals (congr 1; rw [Bool.eq_iff_iff]; simp; try omega)

theorem pb_f (c : UInt8) : spec_pathByte.f (c.toNat : Int) = some (PB c) := by
  unfold spec_pathByte.f
  rw [letter_f, Option.bind_some]
  unfold PB
  by_cases h1 : (97 ≤ c.toNat ∧ c.toNat ≤ 122) ∨ (65 ≤ c.toNat ∧ c.toNat ≤ 90) ∨ (48 ≤ c.toNat ∧ c.toNat ≤ 57) ∨ c.toNat = 95
  · rw [if_pos (decide_eq_true h1)]
    congr 1
    symm
    apply decide_eq_true
    omega
  · rw [if_neg (fun e => h1 (of_decide_eq_true e))]
    by_cases h2 : (c.toNat : Int) = 45
    · rw [if_pos h2]
      congr 1
      symm
      apply decide_eq_true
      omega
    · rw [if_neg h2]
      by_cases h3 : (c.toNat : Int) = 32
      · rw [if_pos h3]
        congr 1
        symm
        apply decide_eq_true
        omega
      · rw [if_neg h3]
        congr 1
        rw [decide_eq_decide]
        omega

def PL (l : List UInt8) : List UInt8 := l.flatMap fun c => if PB c = true then [c] else [92, c]
theorem PL_nil : PL [] = [] := rfl
theorem PL_yes {c : UInt8} (h : PB c = true) (l : List UInt8) : PL (c :: l) = c :: PL l := by simp [PL, h]
theorem PL_no {c : UInt8} (h : PB c = false) (l : List UInt8) : PL (c :: l) = 92 :: c :: PL l := by simp [PL, h]
theorem PL_len (l : List UInt8) : (PL l).length ≤ 2 * l.length := by
  induction l with
  | nil => simp [PL]
  | cons c l ih =>
    cases h : PB c with
    | true => rw [PL_yes h]; simp; omega
    | false => rw [PL_no h]; simp; omega

theorem BA_size (l : List UInt8) : (BA l).size = l.length := by simp [BA, ByteArray.size]
theorem BA_app (a b : List UInt8) : BA a ++ BA b = BA (a ++ b) := by
  apply ByteArray.ext
  simp [BA, ByteArray.data_append]
theorem BA_self (s : ByteArray) : BA s.data.toList = s := by
  apply ByteArray.ext
  simp [BA]

def ints (l : List UInt8) : List Int := l.map fun b => (b.toNat : Int)
theorem ints_str (l : List UInt8) : strOfNums (ints l) = BA l := by
  apply ByteArray.ext
  simp [strOfNums, ints, BA, Function.comp_def]
theorem ints_app (a b : List UInt8) : ints a ++ ints b = ints (a ++ b) := by simp [ints]
theorem ints_len (l : List UInt8) : (ints l).length = l.length := by simp [ints]
theorem bt_nat {s : ByteArray} {i : Nat} (h : i < s.size) : bt s (i : Int) = ((s[i]).toNat : Int) := by
  unfold bt
  rw [dif_pos (by simpa using h)]
  simp

/-- One key's component. -/
theorem one_loop (s : ByteArray) (hs : s.size ≤ 4096) : ∀ (d i : Nat) (acc : List UInt8), s.size - i = d → i ≤ s.size → acc.length ≤ 2 * i →
    Ev (fun k => spec_PathOf.l1 k (ints acc) s (i : Int) [s] 1 0) (BA (acc ++ PL (s.data.toList.drop i))) := by
  intro d
  induction d with
  | zero =>
    intro i acc hd hi ha
    obtain rfl : i = s.size := by omega
    rw [ba_end (Nat.le_refl _), PL_nil, List.append_nil]
    have hw : wrap64 ((0 : Int) + 1) = 1 := by rw [w64 (by decide) (by decide)]; rfl
    refine .succ (.congr (g := fun k => spec_PathOf.l0 k (ints acc) [s] 1 1) (.succ (.const fun k => ?_)) fun k => ?_)
    · simp only [spec_PathOf.l0]
      rw [if_neg (by decide), ints_str]
    · simp only [spec_PathOf.l1, hw]
      rw [if_neg (by omega)]
  | succ d ih =>
    intro i acc hd hi ha
    have hlt : i < s.size := by omega
    have hw : wrap64 ((i : Int) + 1) = ((i + 1 : Nat) : Int) := by rw [w64 (by omega) (by omega)]; omega
    have hl1 : (ints acc).length < 140737488355328 := by rw [ints_len]; omega
    rw [ba_drop hlt]
    have hc : (s[i]).toNat < 256 := UInt8.toNat_lt _
    cases hp : PB s[i] with
    | true =>
      have e1 : ints acc ++ [bt s (i : Int)] = ints (acc ++ [s[i]]) := by rw [bt_nat hlt]; simp [ints]
      rw [PL_yes hp, show acc ++ s[i] :: PL (s.data.toList.drop (i + 1)) = (acc ++ [s[i]]) ++ PL (s.data.toList.drop (i + 1)) by simp]
      refine .succ (((ih (i + 1) (acc ++ [s[i]]) (by omega) (by omega) (by simp; omega)).congr fun k => ?_))
      simp only [spec_PathOf.l1, hw]
      rw [if_pos (by omega), if_pos (by omega), bt_nat hlt, pb_f, Option.bind_some, hp, if_pos rfl, if_pos hl1, ← bt_nat hlt, e1]
    | false =>
      have e1 : ints acc ++ [92] ++ [bt s (i : Int)] = ints (acc ++ [92, s[i]]) := by rw [bt_nat hlt]; simp [ints]
      have hl2 : (ints acc ++ [92]).length < 140737488355328 := by rw [List.length_append, ints_len]; simp; omega
      rw [PL_no hp, show acc ++ 92 :: s[i] :: PL (s.data.toList.drop (i + 1)) = (acc ++ [92, s[i]]) ++ PL (s.data.toList.drop (i + 1)) by simp]
      refine .succ (((ih (i + 1) (acc ++ [92, s[i]]) (by omega) (by omega) (by simp; omega)).congr fun k => ?_))
      simp only [spec_PathOf.l1, hw]
      rw [if_pos (by omega), if_pos (by omega), bt_nat hlt, pb_f, Option.bind_some, hp, if_neg (by decide), if_pos hl1, Option.bind_some, if_pos hl2, ← bt_nat hlt, e1]

theorem pathOf_one (s : ByteArray) (hs : s.size ≤ 4096) : Ev (fun k => spec_PathOf.f k [s]) (BA (PL s.data.toList)) := by
  have h := one_loop s hs _ 0 [] rfl (by omega) (by simp)
  have hr : rdOf ByteArray.empty [s] 0 = s := rfl
  refine .succ (.congr (g := fun k => spec_PathOf.j1 k [] s [s] 1 0) (.succ (h.congr fun k => ?_)) fun k => ?_)
  · simp only [spec_PathOf.j1]
    rfl
  · simp only [spec_PathOf.f, spec_PathOf.l0, hr]
    rw [if_pos (by simp), if_pos (by decide), if_pos (by simp), if_neg (by decide)]
    rfl

theorem take_one (l : List ByteArray) (i : Nat) (h : i < l.length) (hl : l.length ≤ 32) : (l.take ((wrap64 ((i : Int) + 1)) : Int).toNat).drop ((i : Int)).toNat = [l[i]] := by
  have hw : wrap64 ((i : Int) + 1) = ((i + 1 : Nat) : Int) := by rw [w64 (by omega) (by omega)]; omega
  rw [hw, Int.toNat_natCast, Int.toNat_natCast, List.drop_take, show i + 1 - i = 1 by omega, List.drop_eq_getElem_cons h]
  rfl

def nm (a1 : Int) (i : Nat) : Bool := (Go.bits .and .u64 (shr .u64 a1 (IntKind.u64.wrap (i : Int))) 1) == 1
theorem u64w (n : Int) : 0 ≤ IntKind.u64.wrap n := by
  simp only [IntKind.wrap, IntKind.signed, IntKind.bits]
  simp
  omega
theorem isName_f (a1 : Int) (i : Nat) (h : i < 64) : spec_isName.f a1 (i : Int) = some (nm a1 i) := by
  unfold spec_isName.f
  rw [if_pos (by omega), if_pos (u64w _)]
  rfl

def col (a1 : Int) (i : Nat) : List UInt8 := if nm a1 i = true then [58] else []
def tailL (a1 : Int) : Nat → List ByteArray → List UInt8
  | _, [] => []
  | i, s :: r => col a1 i ++ (PL s.data.toList ++ (if r.isEmpty = true then [] else 46 :: tailL a1 (i + 1) r))

theorem ba_len (s : ByteArray) : s.data.toList.length = s.size := by rw [Array.length_toList]; rfl
theorem tail_len (a1 : Int) : ∀ (r : List ByteArray) (i : Nat), (∀ s ∈ r, s.size ≤ 4096) → (tailL a1 i r).length ≤ r.length * 8194 := by
  intro r
  induction r with
  | nil => intro i _; simp [tailL]
  | cons s r ih =>
    intro i h
    have h1 := PL_len s.data.toList
    have h2 := h s (by simp)
    have h3 := ih (i + 1) (fun x hx => h x (by simp [hx]))
    rw [ba_len] at h1
    have hcol : (col a1 i).length ≤ 1 := by unfold col; split <;> simp
    simp only [tailL, List.length_append, List.length_cons]
    split <;> simp <;> omega

theorem drop_at {l : List ByteArray} {i : Nat} (h : i < l.length) : l.drop i = l[i] :: l.drop (i + 1) := List.drop_eq_getElem_cons h
theorem drop_last {l : List ByteArray} {i : Nat} : (l.drop i).isEmpty = decide (l.length ≤ i) := by
  rw [Bool.eq_iff_iff]
  simp

/-- What stands from key i on, the dot ahead of it too. -/
def fromL (a1 : Int) (l : List ByteArray) (i : Nat) : List UInt8 := if l.length ≤ i then [] else (if 0 < i then [46] else []) ++ tailL a1 i (l.drop i)

theorem colon_loop (l : List ByteArray) (a1 : Int) (hl : l.length ≤ 32) (hz : ∀ j (h : j < l.length), l[j].size ≤ 4096) : ∀ (d i : Nat) (acc : List UInt8), l.length - i = d → i ≤ l.length → acc.length ≤ i * 8194 →
    Ev (fun k => spec_ColonPath.l0 k l a1 (BA acc) (l.length : Int) (i : Int)) (BA (acc ++ fromL a1 l i)) := by
  intro d
  induction d with
  | zero =>
    intro i acc hd hi ha
    refine .succ (.const fun k => ?_)
    simp only [spec_ColonPath.l0]
    rw [if_neg (by omega)]
    simp [fromL, show l.length ≤ i by omega]
  | succ d ih =>
    intro i acc hd hi ha
    have hlt : i < l.length := by omega
    have hw : wrap64 ((i : Int) + 1) = ((i + 1 : Nat) : Int) := by rw [w64 (by omega) (by omega)]; omega
    have hP := PL_len l[i].data.toList
    rw [ba_len] at hP
    have hzi := hz i hlt
    obtain ⟨K, hK⟩ := pathOf_one l[i] hzi
    -- behind the dot
    have J : ∀ acc2 : List UInt8, acc2.length ≤ i * 8194 + 1 → Ev (fun k => spec_ColonPath.j1 k l a1 (BA acc2) (i : Int) (l.length : Int) (i : Int)) (BA (acc2 ++ tailL a1 i (l.drop i))) := by
      intro acc2 ha2
      have hfin : tailL a1 i (l.drop i) = col a1 i ++ PL l[i].data.toList ++ fromL a1 l (i + 1) := by
        rw [drop_at hlt, tailL, drop_last]
        unfold fromL
        by_cases c : l.length ≤ i + 1
        · simp [c]
        · simp [c]
      rw [hfin]
      have hcol : (col a1 i).length ≤ 1 := by unfold col; split <;> simp
      obtain ⟨K2, hK2⟩ := ih (i + 1) (acc2 ++ (col a1 i ++ PL l[i].data.toList)) (by omega) (by omega) (by simp; omega)
      refine .succ ⟨max K K2, fun k hk => ?_⟩
      have hk2 := hK2 k (by omega)
      have hk1 := hK k (by omega)
      simp only at hk1 hk2
      simp only [spec_ColonPath.j1]
      rw [isName_f a1 i (by omega), Option.bind_some, take_one l i hlt hl, hk1, hw]
      have p1 : 0 ≤ (i : Int) := by omega
      have p2 : (i : Int) ≤ ((i + 1 : Nat) : Int) := by omega
      have p3 : ((i + 1 : Nat) : Int) ≤ (l.length : Int) := by omega
      simp only [Option.bind_some]
      cases hn : nm a1 i with
      | true =>
        have e : BA acc2 ++ (⟨#[58]⟩ : ByteArray) = BA (acc2 ++ [58]) := BA_app acc2 [58]
        rw [if_pos rfl, e, if_pos (by rw [BA_size]; omega), if_pos p1, if_pos p2, if_pos p3, if_pos (by rw [BA_size, BA_size]; simp; omega), BA_app]
        rw [show acc2 ++ [58] ++ PL l[i].data.toList = acc2 ++ (col a1 i ++ PL l[i].data.toList) by simp [col, hn], hk2]
        simp
      | false =>
        rw [if_neg (by decide), if_pos p1, if_pos p2, if_pos p3, if_pos (by rw [BA_size, BA_size]; omega), BA_app]
        rw [show acc2 ++ PL l[i].data.toList = acc2 ++ (col a1 i ++ PL l[i].data.toList) by simp [col, hn], hk2]
        simp
    by_cases c : 0 < i
    · have e : BA acc ++ (⟨#[46]⟩ : ByteArray) = BA (acc ++ [46]) := BA_app acc [46]
      have ef : fromL a1 l i = 46 :: tailL a1 i (l.drop i) := by unfold fromL; rw [if_neg (by omega), if_pos c]; rfl
      rw [ef, show acc ++ 46 :: tailL a1 i (l.drop i) = (acc ++ [46]) ++ tailL a1 i (l.drop i) by simp]
      refine .succ ((J (acc ++ [46]) (by simp; omega)).congr fun k => ?_)
      simp only [spec_ColonPath.l0]
      rw [if_pos (by omega), if_pos (by omega), if_pos (by rw [BA_size]; omega), e]
    · have ef : fromL a1 l i = tailL a1 i (l.drop i) := by unfold fromL; rw [if_neg (by omega), if_neg c]; rfl
      rw [ef]
      refine .succ ((J acc (Nat.le_succ_of_le ha)).congr fun k => ?_)
      simp only [spec_ColonPath.l0]
      rw [if_pos (by omega), if_neg (by omega)]

theorem colon_f (l : List ByteArray) (a1 : Int) (hl : l.length ≤ 32) (hz : ∀ j (h : j < l.length), l[j].size ≤ 4096) (h0 : 0 < l.length) : Ev (fun k => spec_ColonPath.f k l a1) (BA (tailL a1 0 l)) := by
  have h := colon_loop l a1 hl hz _ 0 [] rfl (by omega) (by simp)
  have e : fromL a1 l 0 = tailL a1 0 l := by unfold fromL; rw [if_neg (by omega)]; simp
  rw [e, List.nil_append] at h
  exact h

/-! ### A component read back -/
theorem PB_not {c : UInt8} (h : PB c = true) : c ≠ 92 ∧ c ≠ 46 ∧ c ≠ 58 ∧ simpleC c = true := by
  have h1 := of_decide_eq_true h
  have ne : ∀ n : Nat, n < 256 → c.toNat ≠ n → c ≠ UInt8.ofNat n := by
    intro n hn hc e
    rw [e, UInt8.toNat_ofNat_of_lt' (by simpa using hn)] at hc
    exact hc rfl
  have a1 : c ≠ 92 := ne 92 (by decide) (by omega)
  have a2 : c ≠ 46 := ne 46 (by decide) (by omega)
  have a3 : c ≠ 58 := ne 58 (by decide) (by omega)
  have a4 : c ≠ 124 := ne 124 (by decide) (by omega)
  have a5 : c ≠ 35 := ne 35 (by decide) (by omega)
  have a6 : c ≠ 64 := ne 64 (by decide) (by omega)
  have a7 : c ≠ 42 := ne 42 (by decide) (by omega)
  have a8 : c ≠ 63 := ne 63 (by decide) (by omega)
  exact ⟨a1, a2, a3, by simp [simpleC, a4, a5, a6, a7, a8]⟩

/-- What stands behind a component: nothing, or a dot and the rest. -/
def Rest (R R' : List UInt8) (m : Bool) : Prop := (R = [] ∧ R' = [] ∧ m = false) ∨ (R = 46 :: R' ∧ m = true)

theorem ppE_key {R R' : List UInt8} {m : Bool} (hR : Rest R R' m) : ∀ (k ep gp : List UInt8), ppE ep gp (PL k ++ R) = some (ep ++ k, gp ++ PL k, R', m) := by
  intro k
  induction k with
  | nil =>
    intro ep gp
    rcases hR with ⟨rfl, rfl, rfl⟩ | ⟨rfl, rfl⟩
    · simp [PL_nil, ppE]
    · rw [PL_nil, List.nil_append]
      unfold ppE
      rw [if_neg (by decide), if_pos rfl]
      simp
  | cons c k ih =>
    intro ep gp
    cases hp : PB c with
    | true =>
      obtain ⟨n1, n2, _, n4⟩ := PB_not hp
      rw [PL_yes hp, List.cons_append]
      unfold ppE
      rw [if_neg n1, if_neg n2, if_pos n4, ih]
      simp
    | false =>
      rw [PL_no hp, List.cons_append, List.cons_append]
      unfold ppE
      rw [if_pos rfl]
      simp only []
      rw [ih]
      simp

theorem ppS_key {R R' : List UInt8} {m : Bool} (hR : Rest R R' m) : ∀ (k pre : List UInt8), ppS pre (PL k ++ R) = some (pre ++ k, pre ++ PL k, R', m) := by
  intro k
  induction k with
  | nil =>
    intro pre
    rcases hR with ⟨rfl, rfl, rfl⟩ | ⟨rfl, rfl⟩
    · simp [PL_nil, ppS]
    · simp [PL_nil, ppS]
  | cons c k ih =>
    intro pre
    cases hp : PB c with
    | true =>
      obtain ⟨n1, n2, _, n4⟩ := PB_not hp
      rw [PL_yes hp, List.cons_append]
      unfold ppS
      rw [if_neg n2, if_pos n4, if_neg n1, ih]
      simp
    | false =>
      rw [PL_no hp, List.cons_append, List.cons_append]
      unfold ppS
      rw [if_neg (by decide), if_pos (by decide), if_pos rfl]
      simp only []
      rw [ppE_key hR]
      simp

theorem BA_tail (c : UInt8) (l : List UInt8) : (BA (c :: l)).extract 1 (BA (c :: l)).size = BA l := by
  rw [ba_tail]
  rfl
theorem BA_head (c : UInt8) (l : List UInt8) (h : 0 < (BA (c :: l)).size) : (BA (c :: l))[0] = c := rfl

theorem sj_read (a1 : Int) (i : Nat) (s : ByteArray) (h0 : s.size ≠ 0) {R R' : List UInt8} {m : Bool} (hR : Rest R R' m) :
    colonOf (BA (col a1 i ++ (PL s.data.toList ++ R))) = nm a1 i ∧ ppOf (BA (col a1 i ++ (PL s.data.toList ++ R))) = some (s.data.toList, PL s.data.toList, R', m) := by
  have hk := ppS_key hR s.data.toList []
  rw [List.nil_append, List.nil_append] at hk
  have hc : colonOf (BA (col a1 i ++ (PL s.data.toList ++ R))) = nm a1 i := by
    unfold colonOf col
    cases hn : nm a1 i with
    | true =>
      rw [if_pos rfl]
      rw [dif_pos (by rw [BA_size]; simp)]
      rfl
    | false =>
      rw [if_neg (by decide), List.nil_append]
      obtain ⟨c, k, hck⟩ : ∃ c k, s.data.toList = c :: k := by
        cases hq : s.data.toList with
        | nil =>
          have := ba_len s
          rw [hq] at this
          exact absurd this.symm h0
        | cons c k => exact ⟨c, k, rfl⟩
      rw [hck]
      cases hp : PB c with
      | true =>
        obtain ⟨_, _, n3, _⟩ := PB_not hp
        rw [PL_yes hp, List.cons_append, dif_pos (by rw [BA_size]; simp), BA_head, if_neg n3]
      | false =>
        rw [PL_no hp, List.cons_append, dif_pos (by rw [BA_size]; simp), BA_head]
        rfl
  refine ⟨hc, ?_⟩
  unfold ppOf
  rw [hc]
  unfold col
  cases hn : nm a1 i with
  | true =>
    rw [if_pos rfl, if_pos rfl, List.cons_append, List.nil_append, BA_tail]
    exact hk
  | false =>
    rw [if_neg (by decide), if_neg (by decide), List.nil_append]
    exact hk

theorem law_loop (l : List ByteArray) (a1 : Int) (hl : l.length ≤ 32) (hz : ∀ j (h : j < l.length), l[j].size ≠ 0 ∧ l[j].size ≤ 4096) : ∀ (d i : Nat) (x5 : ByteArray), l.length - i = d → i ≤ l.length → (i < l.length → x5 = BA (tailL a1 i (l.drop i))) →
    Ev (fun k => laws_FnSjPathOften.l0 k l a1 x5 l (l.length : Int) (i : Int)) true := by
  intro d
  induction d with
  | zero =>
    intro i x5 hd hi hx
    refine .succ (.const fun k => ?_)
    simp only [laws_FnSjPathOften.l0]
    rw [if_neg (by omega)]
  | succ d ih =>
    intro i x5 hd hi hx
    have hlt : i < l.length := by omega
    have hx5 := hx hlt
    have hw : wrap64 ((i : Int) + 1) = ((i + 1 : Nat) : Int) := by rw [w64 (by omega) (by omega)]; omega
    have hwl : wrap64 ((l.length : Int) - 1) = (l.length : Int) - 1 := w64 (by omega) (by omega)
    obtain ⟨hz0, hz1⟩ := hz i hlt
    have hsz : x5.size ≤ 140737488351232 := by
      have h1 := tail_len a1 (l.drop i) i (fun s hs => by
        obtain ⟨j, hj, rfl⟩ := List.getElem_of_mem hs
        rw [List.getElem_drop]
        exact (hz _ _).2)
      rw [hx5, BA_size]
      have h2 : (l.drop i).length ≤ 32 := by rw [List.length_drop]; omega
      omega
    obtain ⟨K, hK⟩ := pathOf_one l[i] hz1
    obtain ⟨R', hR', K2, hK2⟩ : ∃ R', Rest (if (l.drop (i + 1)).isEmpty = true then [] else 46 :: tailL a1 (i + 1) (l.drop (i + 1))) R' (decide ((i : Int) < (l.length : Int) - 1)) ∧ Ev (fun k => laws_FnSjPathOften.l0 k l a1 (BA R') l (l.length : Int) ((i + 1 : Nat) : Int)) true := by
      rw [drop_last]
      by_cases c : l.length ≤ i + 1
      · exact ⟨[], .inl ⟨by simp [c], rfl, decide_eq_false (by omega)⟩, ih (i + 1) (BA []) (by omega) (by omega) (fun h => by omega)⟩
      · exact ⟨tailL a1 (i + 1) (l.drop (i + 1)), .inr ⟨by simp [c], decide_eq_true (by omega)⟩, ih (i + 1) _ (by omega) (by omega) (fun _ => rfl)⟩
    have hpath : x5 = BA (col a1 i ++ (PL l[i].data.toList ++ (if (l.drop (i + 1)).isEmpty = true then [] else 46 :: tailL a1 (i + 1) (l.drop (i + 1))))) := by
      rw [hx5, drop_at hlt, tailL]
    obtain ⟨r1, r2⟩ := sj_read a1 i l[i] hz0 hR'
    rw [← hpath] at r1 r2
    have hf : impl_SjPath.f x5 = some (l[i], BA (PL l[i].data.toList), BA R', nm a1 i, decide ((i : Int) < (l.length : Int) - 1), true) := by
      unfold impl_SjPath.f
      rw [if_pos hsz, r1, r2]
      simp only [sjTuple, BA_self]
    refine .succ ⟨max K K2, fun k hk => ?_⟩
    have hk1 := hK k (by omega)
    have hk2 := hK2 k (by omega)
    simp only at hk1 hk2
    simp only [laws_FnSjPathOften.l0]
    rw [rd_at hlt, hf, Option.bind_some]
    simp only [hwl]
    rw [take_one l i hlt hl, hk1, Option.bind_some, hw]
    rw [if_pos (by omega), if_pos (by omega), if_pos (by omega), if_pos trivial, if_pos trivial, if_pos (by omega), if_pos (by omega), if_pos rfl, if_pos (u64w _)]
    have e1 : (nm a1 i != ((Go.bits .and .u64 (shr .u64 a1 (IntKind.u64.wrap (i : Int))) 1) == 1)) = false := by
      unfold nm
      simp
    rw [e1, if_neg (by decide)]
    simp only [bne_self_eq_false]
    rw [if_neg (by decide)]
    exact hk2

theorem FnSjPathOften (l : List ByteArray) (a1 : Int) : ∃ k, laws_FnSjPathOften.f k l a1 = some true := by
  obtain ⟨b1, ⟨K1, h1'⟩, g1⟩ := zz_total l
  have h1 : ∀ k, K1 ≤ k → laws_zzFits1.f k l = some b1 := h1'
  have key : Ev (fun k => laws_FnSjPathOften.f k l a1) true := by
    cases b1 with
    | false => exact ⟨K1, fun k hk => by simp only [laws_FnSjPathOften.f]; rw [h1 k hk]; rfl⟩
    | true =>
      obtain ⟨hl, hz⟩ := g1 rfl
      obtain ⟨b2, ⟨K2, h2⟩, g2⟩ := keys_loop l hl hz _ 0 0 rfl (by omega) (by omega)
      have h2' : ∀ k, K2 ≤ k → laws_sjKeys.f k l = some b2 := h2
      cases b2 with
      | false => exact ⟨max K1 K2, fun k hk => by simp only [laws_FnSjPathOften.f]; rw [h1 k (by omega), Option.bind_some, if_pos rfl, h2' k (by omega)]; rfl⟩
      | true =>
        obtain ⟨⟨q1, q2, q3⟩, _⟩ := g2 rfl
        have hz4 : ∀ j (h : j < l.length), l[j].size ≠ 0 ∧ l[j].size ≤ 4096 := fun j h => ⟨(q3 j h (by omega)).1, by have := (q3 j h (by omega)).2; omega⟩
        obtain ⟨K3, h3⟩ := colon_f l a1 q2 (fun j h => (hz4 j h).2) q1
        obtain ⟨K4, h4⟩ := law_loop l a1 q2 hz4 _ 0 (BA (tailL a1 0 l)) rfl (by omega) (fun _ => by simp)
        refine ⟨max (max K1 K2) (max K3 K4), fun k hk => ?_⟩
        have e3 := h3 k (by omega)
        have e4 := h4 k (by omega)
        simp only at e3 e4
        simp only [laws_FnSjPathOften.f]
        rw [h1 k (by omega), Option.bind_some, if_pos rfl, h2' k (by omega), Option.bind_some, if_pos rfl, e3, Option.bind_some]
        exact e4
  obtain ⟨K, h⟩ := key
  exact ⟨K, h K (Nat.le_refl _)⟩

end Go.Proofs.Ytifcmhekpbfboaa.Pure
