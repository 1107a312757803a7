/- The walks of fastfloat's ParseUint64 and ParseUint64BestEffort, and of impl's doors to them: both read the same digits, and hand a text of nineteen digits and more to strconv.ParseUint. Condition: strconv's two error variables hold errors. -/
import Derived.Test.YtnidncohhinjbaaDoorProg
import Derived.Test.YtnidncohhinjbaaDoorShelf
import Derived.Test.YtnidncohhinjbaaDoorWWords
import Derived.Test.YtnidncohhinjbaaDoorWLast
import Derived.WalkKit
import Derived.WalkSpells
import Derived.WalkSmall
import Derived.Deep.QuietTactic
import Derived.BigQuiet
import Derived.Deep.DeepCutAuto
import Derived.Deep.CutBlock
import Derived.Deep.LoopGhost
import Derived.IntWalk
import Derived.Lib.Hide
import Derived.Outline
namespace Go.Proofs.YtnidncohhinjbaaDoor
open Go.RowKit Go.Proofs.YtnidncohhinjbaaDoorW.PrintWords Go.Proofs.YtnidncohhinjbaaDoorW.PrintLast

/-- Both variables hold errors. -/
def GLErr (w : World) : Prop := (∃ t p, w.cell? ⟨8, 0, none⟩ = some (.iface t p)) ∧ ∃ t p, w.cell? ⟨9, 0, none⟩ = some (.iface t p)
theorem GLErr.keep {w w' : World} (h : GLErr w) (hb : Below w.heap.size w w') : GLErr w' := by
  obtain ⟨⟨t, p, h0⟩, t', p', h1⟩ := h
  exact ⟨⟨t, p, (hb.cell (World.block_lt_of_cell? w _ h0)).trans h0⟩, t', p', (hb.cell (World.block_lt_of_cell? w _ h1)).trans h1⟩

/-- strconv.ParseUint(s, 10, 64). -/
def ffP (s : ByteArray) : Option Int := match Lib.parseUintB 64 s.data.toList with | .ok u => some ((u : Nat) : Int) | _ => none
def PPost (o : Option Int) (w : World) (e : Ending) (w' : World) : Prop :=
  Below w.heap.size w w' ∧ match o with | some n => e = .returned (.tuple #[.int .u64 n, .nilIface]) | none => ∃ u t p, e = .returned (.tuple #[.int .u64 u, .iface t p])

theorem pu_any (s : ByteArray) (w : World) (hs : s.size ≤ 140737488351232) (hG : GLErr w) : Calls Tryd.prog 47 #[.string s, .int .i64 10, .int .i64 64] w (PPost (ffP s) w) := by
  unfold PPost ffP
  obtain ⟨⟨t0, p0, h0⟩, t1, p1, h1⟩ := hG
  rcases hp : Lib.parseUintB 64 s.data.toList with u | _ | _
  · refine (Tryd.strconv_ParseUint_10_at64_ok s (by omega) u hp w).mono ?_
    rintro e w' ⟨h, rfl | rfl⟩
    · exact ⟨Below.refl _ _, h⟩
    · exact ⟨bytes_below (Below.refl _ _) (Nat.le_refl _) _ s, h⟩
  · refine (Any.strconv_ParseUint_10_at64_syntax Tryd.laysPu14 s (by omega) hp _ w h0 (.inr ⟨t0, p0, rfl⟩)).mono ?_
    rintro e w' ⟨N, h, -, -, hb⟩
    exact ⟨hb, _, _, _, h⟩
  · refine (Any.strconv_ParseUint_10_at64_range Tryd.laysPu14 s (by omega) hp _ w h1 (.inr ⟨t1, p1, rfl⟩)).mono ?_
    rintro e w' ⟨N, h, -, -, hb⟩
    exact ⟨hb, _, _, _, h⟩

/-- The digits from place i on; 'none': there is no number. -/
def ffGo : Nat → ByteArray → Nat → Int → Option (Option Int)
  | 0, _, _, _ => none
  | k + 1, s, i, d =>
    if h : i < s.size then
      (if 48 ≤ (s[i].toNat : Int) then (if (s[i].toNat : Int) ≤ 57 then (if 18 < i + 1 then some (ffP s) else ffGo k s (i + 1) (d * 10 + ((s[i].toNat : Int) - 48))) else some none) else some none)
    else if i = 0 then some none else some (some d)
def ffU (k : Nat) (s : ByteArray) : Option (Option Int) := if s.size = 0 then some none else ffGo k s 0 0

def UPost (o : Option Int) (w : World) (e : Ending) (w' : World) : Prop :=
  Below w.heap.size w w' ∧ match o with | some n => e = .returned (.tuple #[.int .u64 n, .nilIface]) | none => ∃ t p, e = .returned (.tuple #[.int .u64 0, .iface t p])
theorem UPost.yes {n : Int} {w : World} {e : Ending} {w' : World} (h : e = .returned (.tuple #[.int .u64 n, .nilIface])) (hb : Below w.heap.size w w') : UPost (some n) w e w' := ⟨hb, h⟩
theorem UPost.no {w : World} {w' : World} {e : Ending} (h : ∃ t p, e = .returned (.tuple #[.int .u64 0, .iface t p])) (hb : Below w.heap.size w w') : UPost none w e w' := ⟨hb, h⟩
def BPost (o : Option Int) (w : World) (e : Ending) (w' : World) : Prop := Below w.heap.size w w' ∧ e = .returned (.int .u64 (o.getD 0))

theorem pow_18 {i : Nat} (h : i ≤ 18) {d : Int} (hd : d < 10 ^ i) : d ≤ 999999999999999999 := by
  have : (10 : Int) ^ i ≤ 10 ^ 18 := by exact_mod_cast Nat.pow_le_pow_right (by decide) h
  have e : (10 : Int) ^ 18 = 1000000000000000000 := by decide
  omega
theorem pow_up {i : Nat} {d c : Int} (hd : d < 10 ^ i) (h9 : c ≤ 9) : d * 10 + c < 10 ^ (i + 1) := by
  rw [Int.pow_succ]
  omega

set_option maxHeartbeats 400000 in
set_option maxRecDepth 100000 in
theorem parseUint64_any (k : Nat) (s : ByteArray) (o : Option Int) (w : World) (hs : s.size ≤ 140737488351232) (hG : GLErr w) (hf : ffU k s = some o) :
    Calls Tryd.prog 28 #[.string s] w (UPost o w) := by
  have HP := Lib.hid (pu_any s w hs hG)
  clear hG
  unfold ffU at hf
  by_cases h0 : s.size = 0
  · rw [if_pos h0] at hf
    obtain rfl := Option.some.inj hf
    have b0 : (((s.size : Nat) : Int) == 0) = true := by rw [h0]; rfl
    clear h0 hf
    go_enter Tryd.func28, Tryd.ntmps28
    go_wp2
    go_ret2
    exact UPost.no ⟨_, _, rfl⟩ ((Below.refl _ _).alloc (Nat.le_refl _) _)
  · rw [if_neg h0] at hf
    have b0 : (((s.size : Nat) : Int) == 0) = false := by simpa using h0
    have HF := Lib.hid hf
    clear h0 hf
    go_enter Tryd.func28, Tryd.ntmps28
    go_wp2
    clear b0
    go_loopg [4, 5] k (fun gk v4 v5 wr => ∃ (i : Nat) (d : Int), v4 = .int .u64 i ∧ v5 = .int .u64 d ∧ i ≤ 18 ∧ i ≤ s.size ∧ 0 ≤ d ∧ Hid (d < 10 ^ i) ∧ Hid (ffGo gk s i d = some o) ∧ wr = w)
    case atStart => exact ⟨0, 0, rfl, rfl, by omega, by omega, by omega, Lib.hid (by decide), HF, rfl⟩
    case round =>
      clear HF
      obtain ⟨i, d, rfl, rfl, hi, his, hd0, hd, HF, rfl⟩ := hrel
      have hf := HF.out
      clear HF
      have hd18 := pow_18 hi hd.out
      cases gk with
      | zero => simp [ffGo] at hf
      | succ k1 =>
      simp only [ffGo] at hf
      by_cases hlt : i < s.size
      · rw [dif_pos hlt] at hf
        have hu1 : (0 : Int) ≤ (s[i].toNat : Int) := by omega
        have hu2 : (s[i].toNat : Int) ≤ 255 := by have := s[i].toNat_lt; omega
        by_cases c1 : 48 ≤ (s[i].toNat : Int)
        · rw [if_pos c1] at hf
          by_cases c2 : (s[i].toNat : Int) ≤ 57
          · rw [if_pos c2] at hf
            by_cases c3 : 18 < i + 1
            · rw [if_pos c3] at hf
              have hpo := Option.some.inj hf
              have HP2 := HP.out
              rw [hpo] at HP2
              have HP3 := Lib.hid HP2
              clear hf hpo HP2
              cases o with
              | some n =>
                go_wp2_with (go_at_call 47; refine HP3.out.mono ?_; rintro e w' ⟨hb, rfl⟩)
                go_ret2
                exact UPost.yes rfl hb
              | none =>
                go_wp2_with (go_at_call 47; refine HP3.out.mono ?_; rintro e w' ⟨hb, u, t, p, rfl⟩)
                go_ret2
                exact UPost.no ⟨_, _, rfl⟩ hb
            · rw [if_neg c3] at hf
              have HD := Lib.hid (pow_up hd.out (c := (s[i].toNat : Int) - 48) (by omega))
              have HF := Lib.hid hf
              clear hf
              have c4 : i + 1 ≤ 18 := by omega
              go_wp2
              go_roundg k1
              case rel => exact ⟨i + 1, _, by go_num, rfl, c4, by omega, by omega, HD, HF, rfl⟩
              case measure => omega
          · rw [if_neg c2] at hf
            obtain rfl := Option.some.inj hf
            have b2 : decide ((s[i].toNat : Int) ≤ 57) = false := decide_eq_false c2
            clear hf c2
            by_cases hi0 : i = 0
            · subst hi0
              go_wp2
              go_ret2
              exact UPost.no ⟨_, _, rfl⟩ ((Below.refl _ _).alloc (Nat.le_refl _) _)
            · have c5 : 0 < i := by omega
              have b5 : decide ((i : Int) ≤ 0) = false := decide_eq_false (by omega)
              clear hi0
              go_wp2
              go_ret2
              exact UPost.no ⟨_, _, rfl⟩ ((Below.refl _ _).alloc (Nat.le_refl _) _)
        · rw [if_neg c1] at hf
          obtain rfl := Option.some.inj hf
          have b1 : decide (48 ≤ (s[i].toNat : Int)) = false := decide_eq_false c1
          clear hf c1
          by_cases hi0 : i = 0
          · subst hi0
            go_wp2
            go_ret2
            exact UPost.no ⟨_, _, rfl⟩ ((Below.refl _ _).alloc (Nat.le_refl _) _)
          · have c5 : 0 < i := by omega
            have b5 : decide ((i : Int) ≤ 0) = false := decide_eq_false (by omega)
            clear hi0
            go_wp2
            go_ret2
            exact UPost.no ⟨_, _, rfl⟩ ((Below.refl _ _).alloc (Nat.le_refl _) _)
      · rw [dif_neg hlt] at hf
        by_cases hi0 : i = 0
        · rw [if_pos hi0] at hf
          obtain rfl := Option.some.inj hf
          subst hi0
          clear hf
          go_wp2
          go_ret2
          exact UPost.no ⟨_, _, rfl⟩ ((Below.refl _ _).alloc (Nat.le_refl _) _)
        · rw [if_neg hi0] at hf
          obtain rfl := Option.some.inj hf
          have c5 : 0 < i := by omega
          have b5 : decide ((i : Int) ≤ 0) = false := decide_eq_false (by omega)
          clear hf hi0
          go_wp2
          go_ret2
          exact UPost.yes rfl (Below.refl _ _)

set_option maxHeartbeats 400000 in
set_option maxRecDepth 100000 in
theorem parseBest_any (k : Nat) (s : ByteArray) (o : Option Int) (w : World) (hs : s.size ≤ 140737488351232) (hG : GLErr w) (hf : ffU k s = some o) :
    Calls Tryd.prog 29 #[.string s] w (BPost o w) := by
  have HP := Lib.hid (pu_any s w hs hG)
  clear hG
  unfold ffU at hf
  by_cases h0 : s.size = 0
  · rw [if_pos h0] at hf
    obtain rfl := Option.some.inj hf
    have b0 : (((s.size : Nat) : Int) == 0) = true := by rw [h0]; rfl
    clear h0 hf
    go_enter Tryd.func29, Tryd.ntmps29
    go_wp2
    go_ret
    exact ⟨Below.refl _ _, rfl⟩
  · rw [if_neg h0] at hf
    have b0 : (((s.size : Nat) : Int) == 0) = false := by simpa using h0
    have HF := Lib.hid hf
    clear h0 hf
    go_enter Tryd.func29, Tryd.ntmps29
    go_wp2
    clear b0
    go_loopg [3, 4] k (fun gk v4 v5 wr => ∃ (i : Nat) (d : Int), v4 = .int .u64 i ∧ v5 = .int .u64 d ∧ i ≤ 18 ∧ i ≤ s.size ∧ 0 ≤ d ∧ Hid (d < 10 ^ i) ∧ Hid (ffGo gk s i d = some o) ∧ wr = w)
    case atStart => exact ⟨0, 0, rfl, rfl, by omega, by omega, by omega, Lib.hid (by decide), HF, rfl⟩
    case round =>
      clear HF
      obtain ⟨i, d, rfl, rfl, hi, his, hd0, hd, HF, rfl⟩ := hrel
      have hf := HF.out
      clear HF
      have hd18 := pow_18 hi hd.out
      cases gk with
      | zero => simp [ffGo] at hf
      | succ k1 =>
      simp only [ffGo] at hf
      by_cases hlt : i < s.size
      · rw [dif_pos hlt] at hf
        have hu1 : (0 : Int) ≤ (s[i].toNat : Int) := by omega
        have hu2 : (s[i].toNat : Int) ≤ 255 := by have := s[i].toNat_lt; omega
        by_cases c1 : 48 ≤ (s[i].toNat : Int)
        · rw [if_pos c1] at hf
          by_cases c2 : (s[i].toNat : Int) ≤ 57
          · rw [if_pos c2] at hf
            by_cases c3 : 18 < i + 1
            · rw [if_pos c3] at hf
              have hpo := Option.some.inj hf
              have HP2 := HP.out
              rw [hpo] at HP2
              have HP3 := Lib.hid HP2
              clear hf hpo HP2
              cases o with
              | some n =>
                go_wp2_with (go_at_call 47; refine HP3.out.mono ?_; rintro e w' ⟨hb, rfl⟩)
                go_ret
                exact ⟨hb, rfl⟩
              | none =>
                go_wp2_with (go_at_call 47; refine HP3.out.mono ?_; rintro e w' ⟨hb, u, t, p, rfl⟩)
                go_ret
                exact ⟨hb, rfl⟩
            · rw [if_neg c3] at hf
              have HD := Lib.hid (pow_up hd.out (c := (s[i].toNat : Int) - 48) (by omega))
              have HF := Lib.hid hf
              clear hf
              have c4 : i + 1 ≤ 18 := by omega
              go_wp2
              go_roundg k1
              case rel => exact ⟨i + 1, _, by go_num, rfl, c4, by omega, by omega, HD, HF, rfl⟩
              case measure => omega
          · rw [if_neg c2] at hf
            obtain rfl := Option.some.inj hf
            have b2 : decide ((s[i].toNat : Int) ≤ 57) = false := decide_eq_false c2
            clear hf c2
            by_cases hi0 : i = 0
            · subst hi0
              go_wp2
              go_ret
              exact ⟨Below.refl _ _, rfl⟩
            · have c5 : 0 < i := by omega
              have b5 : decide ((i : Int) ≤ 0) = false := decide_eq_false (by omega)
              clear hi0
              go_wp2
              go_ret
              exact ⟨Below.refl _ _, rfl⟩
        · rw [if_neg c1] at hf
          obtain rfl := Option.some.inj hf
          have b1 : decide (48 ≤ (s[i].toNat : Int)) = false := decide_eq_false c1
          clear hf c1
          by_cases hi0 : i = 0
          · subst hi0
            go_wp2
            go_ret
            exact ⟨Below.refl _ _, rfl⟩
          · have c5 : 0 < i := by omega
            have b5 : decide ((i : Int) ≤ 0) = false := decide_eq_false (by omega)
            clear hi0
            go_wp2
            go_ret
            exact ⟨Below.refl _ _, rfl⟩
      · rw [dif_neg hlt] at hf
        by_cases hi0 : i = 0
        · rw [if_pos hi0] at hf
          obtain rfl := Option.some.inj hf
          subst hi0
          clear hf
          go_wp2
          go_ret
          exact ⟨Below.refl _ _, rfl⟩
        · rw [if_neg hi0] at hf
          obtain rfl := Option.some.inj hf
          have c5 : 0 < i := by omega
          have b5 : decide ((i : Int) ≤ 0) = false := decide_eq_false (by omega)
          clear hf hi0
          go_wp2
          go_ret
          exact ⟨Below.refl _ _, rfl⟩


/-! ### impl's doors -/
def impl_FfUint64.f (k : Nat) (s : ByteArray) : Option (Int × Bool) := if s.size ≤ 140737488351232 then (ffU k s).bind fun o => some (match o with | some n => (n, true) | none => (0, false)) else none
def impl_FfUint64Best.f (k : Nat) (s : ByteArray) : Option Int := if s.size ≤ 140737488351232 then (ffU k s).bind fun o => some (o.getD 0) else none

theorem ffGo.mono : ∀ (k : Nat) (s : ByteArray) (i : Nat) (d : Int), LeO (ffGo k s i d) (ffGo (k + 1) s i d)
  | 0, s, i, d => fun r h => by simp [ffGo] at h
  | k + 1, s, i, d => by
    unfold ffGo
    split
    · exact LeO.ite (LeO.ite (LeO.ite (LeO.refl _) (ffGo.mono k _ _ _)) (LeO.refl _)) (LeO.refl _)
    · exact LeO.refl _
theorem ffU.mono (k : Nat) (s : ByteArray) : LeO (ffU k s) (ffU (k + 1) s) := LeO.ite (LeO.refl _) (ffGo.mono k _ _ _)
theorem impl_FfUint64.mono : ∀ a0 k, LeO (impl_FfUint64.f k a0) (impl_FfUint64.f (k + 1) a0) := fun s k => LeO.ite (LeO.bind (ffU.mono k s) fun _ => LeO.refl _) (LeO.refl _)
theorem impl_FfUint64Best.mono : ∀ a0 k, LeO (impl_FfUint64Best.f k a0) (impl_FfUint64Best.f (k + 1) a0) := fun s k => LeO.ite (LeO.bind (ffU.mono k s) fun _ => LeO.refl _) (LeO.refl _)

set_option maxHeartbeats 1000000 in
theorem impl_FfUint64.calls (k : Nat) (s : ByteArray) (r1 : Int) (r2 : Bool) (w : World) (hG : GLErr w) (h : impl_FfUint64.f k s = some (r1, r2)) :
    Calls Tryd.prog 14 #[.string s] w fun e w' => e = .returned (.tuple #[.int .u64 r1, .bool r2]) ∧ Below w.heap.size w w' := by
  unfold impl_FfUint64.f at h
  by_cases hs : s.size ≤ 140737488351232
  · rw [if_pos hs] at h
    obtain ⟨o, ho, h⟩ := Option.bind_eq_some_iff.1 h
    have HC := Lib.hid (parseUint64_any k s o w hs hG ho)
    clear hs hG ho
    cases o with
    | some n =>
      simp only [Option.some.injEq, Prod.mk.injEq] at h
      obtain ⟨rfl, rfl⟩ := h
      go_enter Tryd.func14, Tryd.ntmps14
      go_wp2_with (go_at_call 28; refine HC.out.mono ?_; rintro e w' ⟨hb, rfl⟩)
      go_quiet (fail)
      go_wp2
      go_ret2
      exact ⟨rfl, below_drewN hb _⟩
    | none =>
      simp only [Option.some.injEq, Prod.mk.injEq] at h
      obtain ⟨rfl, rfl⟩ := h
      go_enter Tryd.func14, Tryd.ntmps14
      go_wp2_with (go_at_call 28; refine HC.out.mono ?_; rintro e w' ⟨hb, t, p, rfl⟩)
      go_quiet (fail)
      go_wp2
      go_ret2
      exact ⟨rfl, below_drewN hb _⟩
  · rw [if_neg hs] at h; simp at h

set_option maxHeartbeats 1000000 in
theorem impl_FfUint64Best.calls (k : Nat) (s : ByteArray) (r : Int) (w : World) (hG : GLErr w) (h : impl_FfUint64Best.f k s = some r) :
    Calls Tryd.prog 15 #[.string s] w fun e w' => e = .returned (.int .u64 r) ∧ Below w.heap.size w w' := by
  unfold impl_FfUint64Best.f at h
  by_cases hs : s.size ≤ 140737488351232
  · rw [if_pos hs] at h
    obtain ⟨o, ho, h⟩ := Option.bind_eq_some_iff.1 h
    obtain rfl := Option.some.inj h
    have HC := Lib.hid (parseBest_any k s o w hs hG ho)
    clear hs hG ho h
    obtain ⟨z, hz⟩ : ∃ z, z = o.getD 0 := ⟨_, rfl⟩
    have HZ := Lib.hid hz
    rw [← hz]
    clear hz
    go_enter Tryd.func15, Tryd.ntmps15
    go_wp2_with (go_at_call 29; refine HC.out.mono ?_; rintro e w' ⟨hb, rfl⟩)
    go_ret
    exact ⟨by rw [HZ.out]; rfl, hb⟩
  · rw [if_neg hs] at h; simp at h

end Go.Proofs.YtnidncohhinjbaaDoor
