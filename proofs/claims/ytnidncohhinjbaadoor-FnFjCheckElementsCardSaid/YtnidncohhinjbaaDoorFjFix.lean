/- fastjson's validateValue and validateArray answer as valF and arrF say: by induction on the room k. Conditions: the text takes at most 2^47 - 4096 bytes; the variable ErrSyntax holds an error. -/
import Derived.Test.YtnidncohhinjbaaDoorFjObj
namespace Go.Proofs.YtnidncohhinjbaaDoor
open Go.RowKit

def valF : Nat → ByteArray → Option ByteArray
  | 0, _ => none
  | k + 1, s => valS (arrF (valF k)) (objF (valF k)) s

theorem numExp_lt {s r : ByteArray} {i : Nat} (h : numExp s i = some r) (hi : 0 < i) (hs : 0 < s.size) : r.size < s.size := by
  have z : ((⟨#[]⟩ : ByteArray)).size = 0 := rfl
  unfold numExp at h
  split at h
  · split at h
    · simp only at h
      split at h
      · split at h
        · split at h
          · simp at h
          · split at h
            · simp at h
            · split at h
              · obtain rfl := Option.some.inj h; omega
              · obtain rfl := Option.some.inj h; simp only [ByteArray.size_extract]; omega
        · split at h
          · simp at h
          · split at h
            · obtain rfl := Option.some.inj h; omega
            · obtain rfl := Option.some.inj h; simp only [ByteArray.size_extract]; omega
      · simp at h
    · obtain rfl := Option.some.inj h; rw [ByteArray.size_extract]; omega
  · obtain rfl := Option.some.inj h; omega
theorem numFrac_lt {s r : ByteArray} {i : Nat} (h : numFrac s i = some r) (hi : 0 < i) (hs : 0 < s.size) : r.size < s.size := by
  have z : ((⟨#[]⟩ : ByteArray)).size = 0 := rfl
  unfold numFrac at h
  split at h
  · split at h
    · simp only at h
      split at h
      · simp at h
      · split at h
        · simp at h
        · have := numExp_lt h (by omega) (by omega)
          simp only [ByteArray.size_extract] at this
          omega
    · exact numExp_lt h hi hs
  · obtain rfl := Option.some.inj h; omega
theorem numDig_lt {s r : ByteArray} (h : numDig s = some r) : r.size < s.size := by
  unfold numDig at h
  split at h
  · split at h
    · simp at h
    · split at h
      · simp at h
      · exact numFrac_lt h (by omega) (by omega)
  · simp at h
theorem numF_lt {s r : ByteArray} (h : numF s = some r) : r.size < s.size := by
  unfold numF at h
  split at h
  · split at h
    · have := numDig_lt h
      rw [ByteArray.size_extract] at this
      omega
    · exact numDig_lt h
  · simp at h

/-- Whatever V takes, the text gets no longer. -/
def VLe (V : ByteArray → Option ByteArray) (B : Nat) : Prop := ∀ t r, t.size ≤ B → V t = some r → r.size ≤ t.size
theorem arrL_le {V : ByteArray → Option ByteArray} {B : Nat} (hB : B ≤ 140737488351232) (hV : VLe V B) : ∀ (j : Nat) (s r : ByteArray), s.size ≤ B → arrL V j s = some r → r.size ≤ s.size
  | 0, s, r, _, h => by simp [arrL] at h
  | j + 1, s, r, hs, h => by
    unfold arrL at h
    have h1 := skipF_size s (by omega)
    split at h
    · simp at h
    · rename_i t ht
      have h2 := hV _ _ (by omega) ht
      have h3 := skipF_size t (by omega)
      split at h
      · split at h
        · have := arrL_le hB hV j _ r (by rw [ByteArray.size_extract]; omega) h
          rw [ByteArray.size_extract] at this
          omega
        · split at h
          · obtain rfl := Option.some.inj h; rw [ByteArray.size_extract]; omega
          · simp at h
      · simp at h
theorem arrF_le {V : ByteArray → Option ByteArray} {B : Nat} (hB : B ≤ 140737488351232) (hV : VLe V B) (s r : ByteArray) (hs : s.size ≤ B) (h : arrF V s = some r) : r.size ≤ s.size := by
  unfold arrF at h
  have h1 := skipF_size s (by omega)
  split at h
  · split at h
    · obtain rfl := Option.some.inj h; rw [ByteArray.size_extract]; omega
    · have := arrL_le hB hV _ _ r (by omega) h
      omega
  · simp at h
theorem objE_le {L : ByteArray → Option ByteArray} {u r : ByteArray} (hL : ∀ t r, t.size < u.size → L t = some r → r.size ≤ t.size) (h : objE L u = some r) : r.size ≤ u.size := by
  unfold objE at h
  split at h
  · split at h
    · have := hL _ r (by rw [ByteArray.size_extract]; omega) h
      rw [ByteArray.size_extract] at this
      omega
    · split at h
      · obtain rfl := Option.some.inj h; rw [ByteArray.size_extract]; omega
      · simp at h
  · simp at h
theorem objC_le {V L : ByteArray → Option ByteArray} {B : Nat} (hB : B ≤ 140737488351232) (hV : VLe V B) {t r : ByteArray} (ht : t.size ≤ B) (hL : ∀ x r, x.size < t.size → L x = some r → r.size ≤ x.size) (h : objC V L t = some r) : r.size ≤ t.size := by
  unfold objC at h
  split at h
  · split at h
    · have e1 : (t.extract 1 t.size).size < t.size := by rw [ByteArray.size_extract]; omega
      have h1 := skipF_size (t.extract 1 t.size) (by omega)
      split at h
      · simp at h
      · rename_i u hu
        have h2 := hV _ _ (by omega) hu
        have h3 := skipF_size u (by omega)
        have := objE_le (fun x r hx hr => hL x r (by omega) hr) h
        omega
    · simp at h
  · simp at h
theorem objL_le {V : ByteArray → Option ByteArray} {B : Nat} (hB : B ≤ 140737488351232) (hV : VLe V B) : ∀ (j : Nat) (s r : ByteArray), s.size ≤ B → objL V j s = some r → r.size ≤ s.size
  | 0, s, r, _, h => by simp [objL] at h
  | j + 1, s, r, hs, h => by
    unfold objL at h
    have h1 := skipF_size s (by omega)
    split at h
    · split at h
      · split at h
        · simp at h
        · rename_i a t ht
          have h2 := (keyF_size ht).2
          rw [ByteArray.size_extract] at h2
          have h3 := skipF_size t (by omega)
          split at h
          · simp at h
          · have := objC_le hB hV (by omega) (fun x r hx hr => objL_le hB hV j x r (by omega) hr) h
            omega
      · simp at h
    · simp at h
theorem objF_le {V : ByteArray → Option ByteArray} {B : Nat} (hB : B ≤ 140737488351232) (hV : VLe V B) (s r : ByteArray) (hs : s.size ≤ B) (h : objF V s = some r) : r.size ≤ s.size := by
  unfold objF at h
  have h1 := skipF_size s (by omega)
  split at h
  · split at h
    · obtain rfl := Option.some.inj h; rw [ByteArray.size_extract]; omega
    · have := objL_le hB hV _ _ r (by omega) h
      omega
  · simp at h
theorem valS_lt {A O : ByteArray → Option ByteArray} {s r : ByteArray} (hA : ∀ t r, t.size < s.size → A t = some r → r.size ≤ t.size) (hO : ∀ t r, t.size < s.size → O t = some r → r.size ≤ t.size) (h : valS A O s = some r) : r.size < s.size := by
  unfold valS at h
  split at h
  · have e1 : (s.extract 1 s.size).size < s.size := by rw [ByteArray.size_extract]; omega
    split at h
    · have := hO _ _ e1 h; omega
    · split at h
      · have := hA _ _ e1 h; omega
      · split at h
        · split at h
          · simp at h
          · rename_i a t ht
            have := (strF_size ht).2
            split at h
            · simp at h
            · obtain rfl := Option.some.inj h; omega
        · split at h
          · split at h
            · simp at h
            · split at h
              · obtain rfl := Option.some.inj h; rw [ByteArray.size_extract]; omega
              · simp at h
          · split at h
            · split at h
              · simp at h
              · split at h
                · obtain rfl := Option.some.inj h; rw [ByteArray.size_extract]; omega
                · simp at h
            · split at h
              · split at h
                · simp at h
                · split at h
                  · obtain rfl := Option.some.inj h; rw [ByteArray.size_extract]; omega
                  · simp at h
              · exact numF_lt h
  · simp at h
theorem valF_lt : ∀ (k : Nat) (s r : ByteArray), s.size ≤ 140737488351232 → valF k s = some r → r.size < s.size
  | 0, s, r, _, h => by simp [valF] at h
  | k + 1, s, r, hs, h => by
    have hV : VLe (valF k) 140737488351232 := fun t r ht hr => Nat.le_of_lt (valF_lt k t r ht hr)
    exact valS_lt (fun t r ht hr => arrF_le (Nat.le_refl _) hV t r (by omega) hr) (fun t r ht hr => objF_le (Nat.le_refl _) hV t r (by omega) hr) h
theorem valF_any : ∀ (k : Nat) (s : ByteArray) (w : World), s.size < k → s.size ≤ 140737488351232 → GLErr w → Calls Tryd.prog 67 #[.string s] w (VPost (valF k s) w)
  | 0, s, w, h, _, _ => absurd h (by omega)
  | k + 1, s, w, h, hs, hG => by
    have hV : ∀ B, B < k → B ≤ 140737488351232 → VCalls (valF k) B := fun B hB hB2 => ⟨fun t w ht hG => valF_any k t w (by omega) (by omega) hG, fun t r ht hr => Nat.le_of_lt (valF_lt k t r (by omega) hr)⟩
    exact value_any _ _ s w hs hG (fun t w ht hG => array_any (valF k) t.size (by omega) (hV _ (by omega) (by omega)) t w (Nat.le_refl _) hG) (fun t w ht hG => object_any (valF k) t.size (by omega) (hV _ (by omega) (by omega)) t w (Nat.le_refl _) hG)
/-- Where a value ends: room for every text that the walks take. -/
def valA (s : ByteArray) : Option ByteArray := valF 140737488351233 s
theorem valA_calls : VCalls valA 140737488351232 := ⟨fun t w ht hG => valF_any _ t w (by omega) ht hG, fun t r ht hr => Nat.le_of_lt (valF_lt _ t r ht hr)⟩
theorem arrA_any (s : ByteArray) (w : World) (hs : s.size ≤ 140737488351232) (hG : GLErr w) : Calls Tryd.prog 50 #[.string s] w (VPost (arrF valA s) w) := array_any valA _ (Nat.le_refl _) valA_calls s w hs hG
end Go.Proofs.YtnidncohhinjbaaDoor
