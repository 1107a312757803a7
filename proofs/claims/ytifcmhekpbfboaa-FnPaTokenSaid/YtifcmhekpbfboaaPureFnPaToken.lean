/- The pure statement of FnPaToken: the token that the law's own reading of the pointer "/" ++ s has is what the inner reader's loop makes of s.
   Conditions: none beyond the statement's own. -/
import Derived.Test.YtifcmhekpbfboaaPFnPaTokenx2
namespace Go.Proofs.Ytifcmhekpbfboaa.Pure
open Go.RowKit Go.Proofs.Ytifcmhekpbfboaa.PFnPaToken Go.Proofs.YtifcmhekpbfboaaW.PrintWords Go.Proofs.YtifcmhekpbfboaaW.PrintLast

theorem pt_wrap {x : Int} (h0 : 0 ≤ x) (h : x ≤ 9223372036854775807) : wrap64 x = x := by unfold wrap64; omega

theorem pt_bt (s : ByteArray) (i : Int) (h : 0 ≤ i) : bt ((⟨#[47]⟩ : ByteArray) ++ s) (i + 1) = bt s i := by
  have hs : ((⟨#[47]⟩ : ByteArray) ++ s).size = 1 + s.size := by simp [ByteArray.size_append]; rfl
  have e : (i + 1).toNat = 1 + i.toNat := by omega
  unfold bt
  by_cases hi : i.toNat < s.size
  · rw [dif_pos hi, dif_pos (by omega)]
    congr 1
    have : ((⟨#[47]⟩ : ByteArray) ++ s)[(i + 1).toNat]'(by omega) = s[i.toNat] := by
      rw [ByteArray.getElem_append_right (by rw [e]; show 1 ≤ _; omega)]
      congr 1
      show (i + 1).toNat - 1 = _
      omega
    rw [this]
  · rw [dif_neg hi, dif_neg (by omega)]

theorem pt_any (s : ByteArray) (hn : s.size ≤ 5000) : ∀ (d k : Nat) (i : Int) (x4 : List ByteArray) (acc : List Int), 0 ≤ i → i ≤ s.size → (s.size : Int) - i = d → 2 * d < k → (acc.length : Int) ≤ i → (x4.length : Int) ≤ i →
    ∃ T ok, spec_Tokens.l0 k s x4 acc i = some (T, ok) ∧ (ok = true → x4.length + 1 ≤ T.length) := by
  intro d
  induction d using Nat.strongRecOn with
  | ind d ih =>
    intro k i x4 acc h0 h1 hd hk ha hx
    obtain ⟨k, rfl⟩ : ∃ m, k = m + 1 := ⟨k - 1, by omega⟩
    by_cases hlt : i < (s.size : Int)
    · have w1 : wrap64 (i + 1) = i + 1 := pt_wrap (by omega) (by omega)
      simp only [spec_Tokens.l0]
      rw [if_pos hlt, if_pos h0, w1]
      by_cases c : bt s i = 47
      · rw [if_pos c, if_pos (by omega), if_pos (by omega)]
        obtain ⟨T, ok, hr, hT⟩ := ih (d - 1) (by omega) k (i + 1) (x4 ++ [strOfNums acc]) (acc.take (0 : Int).toNat) (by omega) (by omega) (by omega) (by omega) (by simp; omega) (by simp; omega)
        exact ⟨T, ok, hr, fun h => by have := hT h; simp at this; omega⟩
      · rw [if_neg c]
        by_cases c2 : bt s i = 126
        · rw [if_pos c2]
          obtain ⟨k, rfl⟩ : ∃ m, k = m + 1 := ⟨k - 1, by omega⟩
          by_cases e : i + 1 = (s.size : Int)
          · rw [if_pos e]
            exact ⟨[], false, by simp only [spec_Tokens.j1]; rfl, by simp⟩
          · rw [if_neg e, if_pos (by omega), if_pos (by omega)]
            have w2 : wrap64 (i + 1 + 1) = i + 1 + 1 := pt_wrap (by omega) (by omega)
            by_cases c3 : bt s (i + 1) = 48
            · rw [if_pos c3]
              simp only [spec_Tokens.j1]
              rw [if_neg (by simp), w1, if_pos (by omega), if_pos (by omega), if_pos c3, if_pos (by omega), w2]
              obtain ⟨T, ok, hr, hT⟩ := ih (d - 2) (by omega) k (i + 1 + 1) x4 (acc ++ [126]) (by omega) (by omega) (by omega) (by omega) (by simp; omega) (by omega)
              exact ⟨T, ok, hr, hT⟩
            · rw [if_neg c3]
              by_cases c4 : bt s (i + 1) = 49
              · have eb : (bt s (i + 1) != 49) = false := by simp [c4]
                rw [eb]
                simp only [spec_Tokens.j1]
                rw [if_neg (by simp), w1, if_pos (by omega), if_pos (by omega), if_neg c3, if_pos (by omega), w2]
                obtain ⟨T, ok, hr, hT⟩ := ih (d - 2) (by omega) k (i + 1 + 1) x4 (acc ++ [47]) (by omega) (by omega) (by omega) (by omega) (by simp; omega) (by omega)
                exact ⟨T, ok, hr, hT⟩
              · have eb : (bt s (i + 1) != 49) = true := by simp [c4]
                rw [eb]
                exact ⟨[], false, by simp only [spec_Tokens.j1]; rfl, by simp⟩
        · rw [if_neg c2, if_pos (by omega)]
          obtain ⟨T, ok, hr, hT⟩ := ih (d - 1) (by omega) k (i + 1) x4 (acc ++ [bt s i]) (by omega) (by omega) (by omega) (by omega) (by simp; omega) (by omega)
          exact ⟨T, ok, hr, hT⟩
    · simp only [spec_Tokens.l0]
      rw [if_neg hlt, if_pos (by omega)]
      exact ⟨_, _, rfl, fun _ => by simp⟩

theorem pt_one (s : ByteArray) (hn : s.size ≤ 4096) : ∀ (d k : Nat) (i : Int) (acc : List Int), 0 ≤ i → i ≤ s.size → (s.size : Int) - i = d → 2 * d < k → (acc.length : Int) ≤ i →
    ∃ T ok, spec_Tokens.l0 k ((⟨#[47]⟩ : ByteArray) ++ s) [] acc (i + 1) = some (T, ok) ∧ (ok = true → T.length = 1 → ∃ v, T = [v] ∧ jsonpatch_zzDecode.l0 k s acc i = some v) := by
  have hs : ((⟨#[47]⟩ : ByteArray) ++ s).size = 1 + s.size := by simp [ByteArray.size_append]; rfl
  intro d
  induction d using Nat.strongRecOn with
  | ind d ih =>
    intro k i acc h0 h1 hd hk ha
    obtain ⟨k, rfl⟩ : ∃ m, k = m + 1 := ⟨k - 1, by omega⟩
    by_cases hlt : i < (s.size : Int)
    · have w1 : wrap64 (i + 1) = i + 1 := pt_wrap (by omega) (by omega)
      have w2 : wrap64 (i + 1 + 1) = i + 1 + 1 := pt_wrap (by omega) (by omega)
      have w3 : wrap64 (i + 1 + 1 + 1) = i + 1 + 1 + 1 := pt_wrap (by omega) (by omega)
      simp only [spec_Tokens.l0, jsonpatch_zzDecode.l0]
      rw [if_pos (by omega), if_pos (by omega), w2, pt_bt s i h0, if_pos hlt, if_pos h0, w1]
      by_cases c : bt s i = 47
      · rw [if_pos c, if_pos (by simp), if_pos (by omega)]
        obtain ⟨T, ok, hr, hT⟩ := pt_any ((⟨#[47]⟩ : ByteArray) ++ s) (by omega) (d - 1) k (i + 1 + 1) ([] ++ [strOfNums acc]) (acc.take (0 : Int).toNat) (by omega) (by omega) (by omega) (by omega) (by simp; omega) (by simp; omega)
        exact ⟨T, ok, hr, fun h h1 => by have := hT h; simp at this; omega⟩
      · rw [if_neg c]
        by_cases c2 : bt s i = 126
        · rw [if_pos c2, if_pos c2]
          obtain ⟨k, rfl⟩ : ∃ m, k = m + 1 := ⟨k - 1, by omega⟩
          by_cases e : i + 1 = (s.size : Int)
          · rw [if_pos (show i + 1 + 1 = _ by omega)]
            exact ⟨[], false, by simp only [spec_Tokens.j1]; rfl, by simp⟩
          · rw [if_neg (by omega), if_pos (by omega), if_pos (by omega), pt_bt s (i + 1) (by omega)]
            rw [if_pos (show i + 1 < (s.size : Int) by omega), if_pos (show (0 : Int) ≤ i + 1 by omega)]
            by_cases c3 : bt s (i + 1) = 48
            · rw [if_pos c3, if_pos c3]
              simp only [spec_Tokens.j1, jsonpatch_zzDecode.j1]
              have c3' : ¬ bt s (i + 1) = 49 := by omega
              rw [if_neg (by simp), w2, if_pos (by omega), if_pos (by omega), pt_bt s (i + 1) (by omega), if_pos c3, if_pos (by omega), w3, if_pos trivial, w1, if_pos (by omega), if_pos (by omega), if_neg c3', if_pos (by omega), w2]
              obtain ⟨T, ok, hr, hT⟩ := ih (d - 2) (by omega) k (i + 1 + 1) (acc ++ [126]) (by omega) (by omega) (by omega) (by omega) (by simp; omega)
              exact ⟨T, ok, hr, hT⟩
            · rw [if_neg c3, if_neg c3]
              by_cases c4 : bt s (i + 1) = 49
              · have eb : (bt s (i + 1) != 49) = false := by simp [c4]
                have eb2 : (bt s (i + 1) == 49) = true := by simp [c4]
                rw [eb, eb2]
                simp only [spec_Tokens.j1, jsonpatch_zzDecode.j1]
                rw [if_neg (by simp), w2, if_pos (by omega), if_pos (by omega), pt_bt s (i + 1) (by omega), if_neg c3, if_pos (by omega), w3, if_pos trivial, w1, if_pos (by omega), if_pos (by omega), if_pos c4, if_pos (by omega), w2]
                obtain ⟨T, ok, hr, hT⟩ := ih (d - 2) (by omega) k (i + 1 + 1) (acc ++ [47]) (by omega) (by omega) (by omega) (by omega) (by simp; omega)
                exact ⟨T, ok, hr, hT⟩
              · have eb : (bt s (i + 1) != 49) = true := by simp [c4]
                rw [eb]
                exact ⟨[], false, by simp only [spec_Tokens.j1]; rfl, by simp⟩
        · obtain ⟨k, rfl⟩ : ∃ m, k = m + 1 := ⟨k - 1, by omega⟩
          rw [if_neg c2, if_pos (by omega), if_neg c2]
          simp only [jsonpatch_zzDecode.j1]
          rw [if_neg (by simp), if_pos h0, if_pos hlt, if_pos (by omega), w1]
          obtain ⟨T, ok, hr, hT⟩ := ih (d - 1) (by omega) k (i + 1) (acc ++ [bt s i]) (by omega) (by omega) (by omega) (by omega) (by simp; omega)
          refine ⟨T, ok, ?_, hT⟩
          have hm := (spec_Tokens.mono_l k).1
          exact hm _ _ _ _ _ hr
    · simp only [spec_Tokens.l0, jsonpatch_zzDecode.l0]
      rw [if_neg (by omega), if_pos (by simp), if_neg hlt]
      exact ⟨_, _, rfl, fun _ _ => ⟨_, rfl, rfl⟩⟩

theorem FnPaToken : laws_FnPaToken.Pure := by
  intro s _
  by_cases hn : s.size ≤ 4096
  · have hs : ((⟨#[47]⟩ : ByteArray) ++ s).size = 1 + s.size := by simp [ByteArray.size_append]; rfl
    obtain ⟨T, ok, hr, hT⟩ := pt_one s hn s.size (2 * s.size + 1) 0 [] (by omega) (by omega) (by omega) (by omega) (by simp)
    refine ⟨2 * s.size + 1, ?_⟩
    unfold laws_FnPaToken.f
    rw [if_neg (by omega), if_neg (by omega), if_pos (by omega)]
    have hf : spec_Tokens.f (2 * s.size + 1) ((⟨#[47]⟩ : ByteArray) ++ s) = some (T, ok) := by
      unfold spec_Tokens.f
      have hne : ¬ ((⟨#[47]⟩ : ByteArray) ++ s).toList = [] := by
        intro h
        rw [Go.ByteArray.toList_eq] at h
        have := congrArg List.length h
        rw [Array.length_toList] at this
        have h2 : ((⟨#[47]⟩ : ByteArray) ++ s).size = 0 := this
        omega
      have hb : bt ((⟨#[47]⟩ : ByteArray) ++ s) 0 = 47 := by
        unfold bt
        rw [dif_pos (show (0 : Int).toNat < _ by rw [hs]; show 0 < 1 + s.size; omega)]
        rw [ByteArray.getElem_append_left (by show 0 < 1; omega)]
        rfl
      simp only [Option.bind_some]
      rw [if_neg hne, if_pos (by omega), if_pos hb]
      exact hr
    rw [hf]
    simp only [Option.bind_some]
    cases ok with
    | false => rfl
    | true =>
      rw [if_pos rfl]
      by_cases hl : (T.length : Int) = 1
      · obtain ⟨v, rfl, hv⟩ := hT rfl (by omega)
        rw [if_pos hl]
        have : impl_PaToken.f (2 * s.size + 1) s = some v := by
          unfold impl_PaToken.f jsonpatch_DoorToken.f jsonpatch_decodePatchKey.f jsonpatch_zzDecode.f
          rw [hv]; rfl
        rw [this]
        simp [rdOf]
      · rw [if_neg hl]
  · refine ⟨0, ?_⟩
    unfold laws_FnPaToken.f
    by_cases h : (s.size : Int) > 2147483647
    · rw [if_pos h]
    · rw [if_neg h, if_pos (by omega)]

end Go.Proofs.Ytifcmhekpbfboaa.Pure
