/- The walks of gjson's safeInt, of its door and of math.Trunc, and of the law FnGjSafeInt: a float64 of which no digit stands at 2^53 or above is taken for the whole number that is left without what stands behind the point. No condition. -/
import Derived.Test.YtifcmhekpbfboaaProg
import Derived.WalkKit
import Derived.WalkLawsBesides
import Derived.Laws.Externs
import Derived.WalkSpells
import Derived.Deep.QuietTactic
import Derived.BigQuiet
import Derived.Lib.Hide
import Derived.Outline
namespace Go.Proofs.Ytifcmhekpbfboaa.Flt
open Go.RowKit Ieee

theorem dbl_sw : Ieee.double.signWeight = 9223372036854775808 := by decide
theorem dbl_bin : Ieee.double.binade = 4503599627370496 := by decide
theorem dbl_inf : Ieee.double.infRung = 9218868437227405312 := by decide
theorem dbl_lp : Ieee.double.leastPlace = -1074 := by decide

/-- What a word is read as. -/
theorem read_cases (x : Nat) (hnan : (double.read x).isNaN = false) :
    (∃ s, double.read x = .infinity s) ∨ (∃ s m p, double.read x = .number s m p ∧ m < 9007199254740992 ∧ -1074 ≤ p ∧ (0 < p → 4503599627370496 ≤ m)) := by
  unfold Format.read at hnan ⊢
  rw [dbl_sw, dbl_bin, dbl_inf, dbl_lp] at *
  simp only at hnan ⊢
  generalize x % 9223372036854775808 = r at *
  generalize (x / 9223372036854775808 % 2 == 1) = s at *
  split
  · exact .inr ⟨s, r, -1074, rfl, by omega, by omega, by omega⟩
  · split
    · refine .inr ⟨s, _, _, rfl, by omega, by omega, by omega⟩
    · split
      · exact .inl ⟨s, rfl⟩
      · rename_i h1 h2 h3
        rw [if_neg h1, if_neg h2, if_neg h3] at hnan
        simp [Datum.isNaN] at hnan



theorem shl_pos (m : Nat) (d : Nat) : m <<< d = m * 2 ^ d := Nat.shiftLeft_eq m d

theorem read_a : double.read 4845873199050653695 = .number false 9007199254740991 0 := by decide
theorem read_b : double.read (4845873199050653695 + 9223372036854775808) = .number true 9007199254740991 0 := by decide
theorem read_c : double.read 4845873199050653696 = .number false 4503599627370496 1 := by decide
theorem read_d : double.read (4845873199050653696 + 9223372036854775808) = .number true 4503599627370496 1 := by decide

theorem two_le {d : Nat} (h : 0 < d) : 2 ≤ 2 ^ d := by
  obtain ⟨k, rfl⟩ : ∃ k, d = k + 1 := ⟨d - 1, by omega⟩
  rw [Nat.pow_succ]
  have : 0 < 2 ^ k := Nat.two_pow_pos k
  omega

/-- a number whose place is not positive -/
theorem low_order (s : Bool) (m : Nat) (p : Int) (hm : m < 9007199254740992) (hp : p ≤ 0) :
    Datum.order (.number s m p) (.number true 9007199254740991 0) ≠ some .lt ∧ Datum.order (.number s m p) (.number false 9007199254740991 0) ≠ some .gt ∧
    Datum.order (.number s m p) (.number true 4503599627370496 1) = some .gt ∧ Datum.order (.number s m p) (.number false 4503599627370496 1) = some .lt := by
  obtain ⟨d, rfl⟩ : ∃ d : Nat, p = -(d : Int) := ⟨p.natAbs, by omega⟩
  have e0 : min (-(d : Int)) 0 = -(d : Int) := by omega
  have e1 : min (-(d : Int)) 1 = -(d : Int) := by omega
  have f0 : (-(d : Int) - -(d : Int)).toNat = 0 := by omega
  have f1 : (0 - -(d : Int)).toNat = d := by omega
  have f2 : (1 - -(d : Int)).toNat = d + 1 := by omega
  have hd : 0 < 2 ^ d := Nat.two_pow_pos d
  have h1 : 9007199254740991 ≤ 9007199254740991 * 2 ^ d := Nat.le_mul_of_pos_right _ hd
  have h2 : 4503599627370496 * 2 ^ (d + 1) = 9007199254740992 * 2 ^ d := by rw [Nat.pow_succ]; omega
  have h3 : 9007199254740992 ≤ 9007199254740992 * 2 ^ d := Nat.le_mul_of_pos_right _ hd
  simp only [Datum.order, e0, e1, f0, f1, f2, signed, shl_pos, h2, Nat.pow_zero, Nat.mul_one]
  generalize 9007199254740991 * 2 ^ d = A at *
  generalize 9007199254740992 * 2 ^ d = B at *
  refine ⟨?_, ?_, ?_, ?_⟩
  · intro h; rw [Option.some.injEq, Int.compare_eq_lt] at h; cases s <;> simp at h <;> omega
  · intro h; rw [Option.some.injEq, Int.compare_eq_gt] at h; cases s <;> simp at h <;> omega
  · rw [Option.some.injEq, Int.compare_eq_gt]; cases s <;> simp <;> omega
  · rw [Option.some.injEq, Int.compare_eq_lt]; cases s <;> simp <;> omega

theorem high_order (s : Bool) (m : Nat) (p : Int) (hm : 4503599627370496 ≤ m) (hp : 0 < p) :
    (if s then Datum.order (.number s m p) (.number true 9007199254740991 0) = some .lt else Datum.order (.number s m p) (.number true 9007199254740991 0) ≠ some .lt) ∧
    (if s then True else Datum.order (.number s m p) (.number false 9007199254740991 0) = some .gt) ∧
    (Datum.order (.number s m p) (.number true 4503599627370496 1) = some .gt → Datum.order (.number s m p) (.number false 4503599627370496 1) ≠ some .lt) := by
  obtain ⟨d, rfl⟩ : ∃ d : Nat, p = (d : Int) + 1 := ⟨(p - 1).toNat, by omega⟩
  have e0 : min ((d : Int) + 1) 0 = 0 := by omega
  have e1 : min ((d : Int) + 1) 1 = 1 := by omega
  have f0 : ((d : Int) + 1 - 0).toNat = d + 1 := by omega
  have f1 : ((d : Int) + 1 - 1).toNat = d := by omega
  have f2 : ((0 : Int) - 0).toNat = 0 := rfl
  have f3 : ((1 : Int) - 1).toNat = 0 := rfl
  have hd : 0 < 2 ^ d := Nat.two_pow_pos d
  have h1 : 4503599627370496 * 1 ≤ m * 2 ^ d := Nat.mul_le_mul hm hd
  have h2 : m * 2 ^ (d + 1) = 2 * (m * 2 ^ d) := by rw [Nat.pow_succ, ← Nat.mul_assoc]; omega
  simp only [Datum.order, e0, e1, f0, f1, f2, f3, signed, shl_pos, h2, Nat.pow_zero, Nat.mul_one]
  generalize m * 2 ^ d = A at *
  refine ⟨?_, ?_, ?_⟩
  · cases s
    · rw [if_neg (by simp)]; intro h; rw [Option.some.injEq, Int.compare_eq_lt] at h; simp at h; omega
    · rw [if_pos rfl, Option.some.injEq, Int.compare_eq_lt]; simp; omega
  · cases s
    · rw [if_neg (by simp), Option.some.injEq, Int.compare_eq_gt]; simp; omega
    · trivial
  · intro h; rw [Option.some.injEq, Int.compare_eq_gt] at h; intro g; rw [Option.some.injEq, Int.compare_eq_lt] at g; cases s <;> simp at h g <;> omega

theorem inf_order (s : Bool) :
    (if s then Datum.order (.infinity s) (.number true 9007199254740991 0) = some .lt else Datum.order (.infinity s) (.number true 9007199254740991 0) ≠ some .lt ∧ Datum.order (.infinity s) (.number false 9007199254740991 0) = some .gt) ∧
    (Datum.order (.infinity s) (.number true 4503599627370496 1) = some .gt → Datum.order (.infinity s) (.number false 4503599627370496 1) ≠ some .lt) := by
  cases s <;> simp [Datum.order]

/-- the size of a number made whole -/
def cutZ (m : Nat) (p : Int) : Nat := Toward.zero.cut false (m <<< p.toNat) (-p).toNat
theorem cutZ_neg (s : Bool) (m : Nat) (p : Int) : Toward.zero.cut s (m <<< p.toNat) (-p).toNat = cutZ m p := by
  unfold cutZ Toward.cut; rfl
theorem cut_le (n d : Nat) : Toward.zero.cut false n d ≤ n := by
  unfold Toward.cut; simp; exact Nat.div_le_self _ _
theorem cutZ_low (m : Nat) (p : Int) (hp : p ≤ 0) : cutZ m p ≤ m := by
  unfold cutZ
  have e : p.toNat = 0 := by omega
  rw [e]
  simpa using cut_le m (-p).toNat

theorem cut_exact (n k d : Nat) (hn : n = k * 2 ^ d) : Toward.zero.cut false n d = k := by
  unfold Toward.cut
  simp only [Nat.shiftLeft_eq, Nat.one_mul, Bool.toNat_false, Nat.add_zero]
  by_cases hk : k = 0
  · subst hk; simp at hn; subst hn; simp
  · have : d ≤ n.log2 := by
      rw [Nat.le_log2 (by rw [hn]; exact Nat.mul_ne_zero hk (by have := Nat.two_pow_pos d; omega)), hn]
      exact Nat.le_mul_of_pos_left _ (by omega)
    rw [Nat.min_eq_left (by omega), hn]
    exact Nat.mul_div_cancel _ (Nat.two_pow_pos d)

theorem even_none (s : Bool) (n : Nat) : Toward.even.cut s n 0 = n := by
  unfold Toward.cut
  simp [Nat.mod_one]

/-- A whole number below 2^53 is written exactly. -/
theorem read_write (s : Bool) (n : Nat) (hn : n < 9007199254740992) : (double.read (double.write (.number s n 0))).toInt .zero = some (signed s n 0) := by
  show (double.read (double.nearest s n 0)).toInt .zero = some (signed s n 0)
  unfold Format.nearest
  by_cases h0 : n = 0
  · subst h0; cases s <;> decide
  · rw [if_neg h0]
    have hl : n.log2 ≤ 52 := by have := (Nat.log2_lt h0 (k := 53)).2 (by omega); omega
    have hlo : 2 ^ n.log2 ≤ n := Nat.log2_self_le h0
    have hhi : n < 2 ^ (n.log2 + 1) := Nat.lt_log2_self
    have e1 : max ((0 : Int) + n.log2 - (double.fractionBits : Nat)) double.leastPlace = (n.log2 : Int) - 52 := by
      have : (double.fractionBits : Nat) = 52 := rfl
      have : double.leastPlace = -1074 := by decide
      omega
    simp only [e1]
    have e2 : ((n.log2 : Int) - 52 - 0).toNat = 0 := by omega
    have e3 : (0 - ((n.log2 : Int) - 52)).toNat = 52 - n.log2 := by omega
    rw [e2, e3, even_none, shl_pos]
    have lp : double.leastPlace = -1074 := by decide
    have e4 : ((n.log2 : Int) - 52 - double.leastPlace).toNat = n.log2 + 1022 := by omega
    rw [e4]
    have hb : double.binade = 4503599627370496 := by decide
    have hi : double.infRung = 9218868437227405312 := by decide
    have hsw : double.signWeight = 9223372036854775808 := by decide
    rw [hb, hi]
    generalize hL : n.log2 = L at *
    have k1 : 4503599627370496 ≤ n * 2 ^ (52 - L) := by
      have : 2 ^ L * 2 ^ (52 - L) ≤ n * 2 ^ (52 - L) := Nat.mul_le_mul_right _ hlo
      rw [← Nat.pow_add, show L + (52 - L) = 52 by omega] at this
      exact this
    have k2 : n * 2 ^ (52 - L) < 9007199254740992 := by
      have : n * 2 ^ (52 - L) < 2 ^ (L + 1) * 2 ^ (52 - L) := Nat.mul_lt_mul_of_pos_right hhi (Nat.two_pow_pos _)
      rw [← Nat.pow_add, show L + 1 + (52 - L) = 53 by omega] at this
      exact this
    generalize hK : n * 2 ^ (52 - L) = K at *
    rw [Nat.min_eq_left (by omega)]
    generalize hR : (L + 1022) * 4503599627370496 + K = R
    have r1 : R % 9223372036854775808 = R := Nat.mod_eq_of_lt (by omega)
    have er : double.read (double.word s R) = .number s K ((L : Int) - 52) := by
      unfold Format.read Format.word
      rw [hsw, hb, hi, lp]
      have q1 : (if s = true then 9223372036854775808 + R else R) % 9223372036854775808 = R := by cases s <;> simp <;> omega
      have q2 : ((if s = true then 9223372036854775808 + R else R) / 9223372036854775808 % 2 == 1) = s := by
        cases s
        · simp only [Bool.false_eq_true, if_false]; rw [Nat.div_eq_of_lt (by omega)]; rfl
        · simp only [if_true]; rw [show (9223372036854775808 + R) / 9223372036854775808 = 1 by omega]; rfl
      simp only [q1, q2]
      rw [if_neg (by omega), if_pos (by omega)]
      have q3 : R % 4503599627370496 = K - 4503599627370496 := by omega
      have q4 : R / 4503599627370496 = L + 1023 := by omega
      have q5 : 4503599627370496 + (K - 4503599627370496) = K := Nat.add_sub_cancel' k1
      have q6 : (-1074 : Int) + ((L + 1023 - 1 : Nat) : Int) = (L : Int) - 52 := by omega
      rw [q3, q4, q5, q6]
    rw [er]
    unfold Datum.toInt Datum.integral
    simp only
    have t1 : ((L : Int) - 52).toNat = 0 := by omega
    have t2 : (-((L : Int) - 52)).toNat = 52 - L := by omega
    rw [t1, t2]
    simp only [Nat.shiftLeft_zero]
    congr 2
    exact cut_exact K n (52 - L) hK.symm

/-- What is left of a number without what stands behind its point. -/
def whole (s : Bool) (m : Nat) (p : Int) : Int := signed s (cutZ m p) 0

theorem whole_int {x : Nat} {s : Bool} {m : Nat} {p : Int} (h : FloatKind.f64.decode x = .number s m p) (hm : m < 9007199254740992) (hp : p ≤ 0) : floatToIntVal .f64 x .i64 = some (whole s m p) := by
  unfold floatToIntVal
  have e : (FloatKind.f64.decode x).toInt .zero = some (whole s m p) := by
    rw [h]
    unfold Datum.toInt Datum.integral whole
    simp only
    rw [cutZ_neg]
  rw [e]
  simp only
  have hc := cutZ_low m p hp
  have h1 : IntKind.i64.min = -9223372036854775808 := by decide
  have h2 : IntKind.i64.max = 9223372036854775807 := by decide
  rw [if_pos]
  rw [h1, h2]
  unfold whole signed
  rw [Nat.shiftLeft_zero]
  cases s <;> simp <;> omega

/-- The float64 that math.Trunc gives. -/
def truncW (s : Bool) (m : Nat) (p : Int) : Nat := FloatKind.f64.encode (.number s (cutZ m p) 0)
theorem trunc_int (s : Bool) (m : Nat) (p : Int) (hm : m < 9007199254740992) (hp : p ≤ 0) : floatToIntVal .f64 (truncW s m p) .i64 = some (whole s m p) := by
  have hc := cutZ_low m p hp
  unfold floatToIntVal
  have e : (FloatKind.f64.decode (truncW s m p)).toInt .zero = some (whole s m p) := read_write s (cutZ m p) (by omega)
  rw [e]
  simp only
  have h1 : IntKind.i64.min = -9223372036854775808 := by decide
  have h2 : IntKind.i64.max = 9223372036854775807 := by decide
  rw [if_pos]
  rw [h1, h2]
  unfold whole signed
  rw [Nat.shiftLeft_zero]
  cases s <;> simp <;> omega

theorem arch_run {x : Nat} {s : Bool} {m : Nat} {p : Int} (h : FloatKind.f64.decode x = .number s m p) (w : World) : (callFunc 31 #[.float .f64 x]).run Try.prog w = .ok (.value (.float .f64 (truncW s m p))) w := by
  rw [run_callFunc_extern (e := Extern.MathFloor.toIntegral "math.archTrunc" .zero) Try.func31 (by kernel_rfl) (by kernel_rfl) (by kernel_rfl) (by kernel_rfl)]
  have e : (Extern.MathFloor.toIntegral "math.archTrunc" .zero #[.float .f64 x]) = (pure (.float .f64 (truncW s m p)) : Sem Value) := by
    change (match FloatKind.f64.decode x with
      | .nan s t =>
        if FloatKind.f64.format.quiet t = t then pure (.float .f64 x) else do
        let kept ← choose (.extern "math.Floor,Ceil,Trunc,RoundToEven.signallingNaN kept" 2)
        pure (.float .f64 (if kept == 1 then x else FloatKind.f64.encode (.nan s (FloatKind.f64.format.quiet t))))
      | d => pure (.float .f64 (FloatKind.f64.encode (d.integral .zero))) : Sem Value) = _
    rw [h]
    unfold truncW
    simp only [Datum.integral, cutZ_neg]
  rw [e]
  rfl

set_option maxHeartbeats 1000000 in
theorem trunc_walk {x : Nat} {s : Bool} {m : Nat} {p : Int} (h : FloatKind.f64.decode x = .number s m p) (w : World) :
    Calls Try.prog 16 #[.float .f64 x] w fun e w' => e = .returned (.float .f64 (truncW s m p)) ∧ w = w' := by
  have hc := fun w => arch_run h w
  clear h
  go_enter Try.func16, Try.ntmps16
  go_wp2_with (simp only [hc])
  all_goals (go_ret; exact ⟨rfl, rfl⟩)

abbrev ord (x y : Nat) : Option Ordering := FloatKind.f64.format.order x y

set_option maxHeartbeats 1000000 in
theorem safe_yes (x : Nat) (n : Int) (w : World) (h1 : (FloatKind.f64.format.order x 14069245235905429503 == some .lt) = false) (h2 : (FloatKind.f64.format.order x 4845873199050653695 == some .gt) = false) (h : floatToIntVal .f64 x .i64 = some n) :
    Calls Try.prog 44 #[.float .f64 x] w fun e w' => e = .returned (.tuple #[.int .i64 n, .bool true]) ∧ w = w' := by
  have hc : ∀ w, (convert 34 2 (.float .f64 x)).run Try.prog w = .ok (.int .i64 n) w := fun w => run_convert_float_int w 34 2 .f64 .i64 x n (by rw [Try.underlying34]; rfl) Try.underlying2 h
  clear h
  go_enter Try.func44, Try.ntmps44
  go_wp2_with (simp only [hc])
  go_ret2
  exact ⟨rfl, rfl⟩

set_option maxHeartbeats 1000000 in
theorem safe_lt (x : Nat) (w : World) (h1 : (FloatKind.f64.format.order x 14069245235905429503 == some .lt) = true) :
    Calls Try.prog 44 #[.float .f64 x] w fun e w' => e = .returned (.tuple #[.int .i64 0, .bool false]) ∧ w = w' := by
  go_enter Try.func44, Try.ntmps44
  go_wp2
  go_ret2
  exact ⟨rfl, rfl⟩

set_option maxHeartbeats 1000000 in
theorem safe_gt (x : Nat) (w : World) (h1 : (FloatKind.f64.format.order x 14069245235905429503 == some .lt) = false) (h2 : (FloatKind.f64.format.order x 4845873199050653695 == some .gt) = true) :
    Calls Try.prog 44 #[.float .f64 x] w fun e w' => e = .returned (.tuple #[.int .i64 0, .bool false]) ∧ w = w' := by
  go_enter Try.func44, Try.ntmps44
  go_wp2
  go_ret2
  exact ⟨rfl, rfl⟩

set_option maxHeartbeats 1000000 in
theorem impl_any (x : Nat) (n : Int) (b : Bool) (h : ∀ w, Calls Try.prog 44 #[.float .f64 x] w fun e w' => e = .returned (.tuple #[.int .i64 n, .bool b]) ∧ w = w') (w : World) :
    Calls Try.prog 15 #[.float .f64 x] w fun e w' => e = .returned (.tuple #[.int .i64 n, .bool b]) ∧ w = w' := by
  have H := Lib.hid h
  clear h
  go_enter Try.func15, Try.ntmps15
  go_wp2_with (first | (go_at_call 44; refine (H.out _).mono ?_; rintro e w' ⟨rfl, rfl⟩) | go_in)
  go_ret2
  exact ⟨rfl, rfl⟩

def Yes (w : World) (e : Ending) (w' : World) : Prop := e = .returned (.bool true) ∧ Below w.heap.size w w'

set_option maxHeartbeats 1000000 in
theorem law_nan (x : Nat) (w : World) (h : (FloatKind.f64.format.order x x != some .eq) = true) : Calls Try.prog 5 #[.float .f64 x] w (Yes w) := by
  go_enter Try.func5, Try.ntmps5
  go_wp2
  go_ret
  exact ⟨rfl, Below.refl _ _⟩

set_option maxHeartbeats 1000000 in
theorem law_safe (x : Nat) (n : Int) (y : Nat) (w : World) (h : (FloatKind.f64.format.order x x != some .eq) = false)
    (hs : ∀ w, Calls Try.prog 15 #[.float .f64 x] w fun e w' => e = .returned (.tuple #[.int .i64 n, .bool true]) ∧ w = w')
    (h1 : (FloatKind.f64.format.order x 14069245235905429504 == some .gt) = true) (h2 : (FloatKind.f64.format.order x 4845873199050653696 == some .lt) = true)
    (ht : ∀ w, Calls Try.prog 16 #[.float .f64 x] w fun e w' => e = .returned (.float .f64 y) ∧ w = w') (hy : floatToIntVal .f64 y .i64 = some n) : Calls Try.prog 5 #[.float .f64 x] w (Yes w) := by
  have hc : ∀ w, (convert 34 2 (.float .f64 y)).run Try.prog w = .ok (.int .i64 n) w := fun w => run_convert_float_int w 34 2 .f64 .i64 y n (by rw [Try.underlying34]; rfl) Try.underlying2 hy
  have HS := Lib.hid hs
  have HT := Lib.hid ht
  clear hs ht hy
  go_enter Try.func5, Try.ntmps5
  go_wp2_with (first | (go_at_call 15; refine (HS.out _).mono ?_; rintro e w' ⟨rfl, rfl⟩) | (go_at_call 16; refine (HT.out _).mono ?_; rintro e w' ⟨rfl, rfl⟩))
  go_ret
  exact ⟨rfl, Below.refl _ _⟩

set_option maxHeartbeats 1000000 in
theorem law_off (x : Nat) (n : Int) (w : World) (h : (FloatKind.f64.format.order x x != some .eq) = false)
    (hs : ∀ w, Calls Try.prog 15 #[.float .f64 x] w fun e w' => e = .returned (.tuple #[.int .i64 n, .bool false]) ∧ w = w')
    (h1 : (FloatKind.f64.format.order x 14069245235905429504 == some .gt) = true) (h2 : (FloatKind.f64.format.order x 4845873199050653696 == some .lt) = false) : Calls Try.prog 5 #[.float .f64 x] w (Yes w) := by
  have HS := Lib.hid hs
  clear hs
  go_enter Try.func5, Try.ntmps5
  go_wp2_with (first | (go_at_call 15; refine (HS.out _).mono ?_; rintro e w' ⟨rfl, rfl⟩))
  go_ret
  exact ⟨rfl, Below.refl _ _⟩

set_option maxHeartbeats 1000000 in
theorem law_off1 (x : Nat) (n : Int) (w : World) (h : (FloatKind.f64.format.order x x != some .eq) = false)
    (hs : ∀ w, Calls Try.prog 15 #[.float .f64 x] w fun e w' => e = .returned (.tuple #[.int .i64 n, .bool false]) ∧ w = w')
    (h1 : (FloatKind.f64.format.order x 14069245235905429504 == some .gt) = false) : Calls Try.prog 5 #[.float .f64 x] w (Yes w) := by
  have HS := Lib.hid hs
  clear hs
  go_enter Try.func5, Try.ntmps5
  go_wp2_with (first | (go_at_call 15; refine (HS.out _).mono ?_; rintro e w' ⟨rfl, rfl⟩))
  go_ret
  exact ⟨rfl, Below.refl _ _⟩

theorem self_order (d : Datum) (h : d.isNaN = false) : d.order d = some .eq := by
  cases d with
  | number s m p => simp [Datum.order]
  | infinity s => simp [Datum.order]
  | nan s t => simp [Datum.isNaN] at h

/-- The law: true at every float64. -/
theorem law_any (x : Nat) (w : World) : Calls Try.prog 5 #[.float .f64 x] w (Yes w) := by
  by_cases hn : (double.read x).isNaN = true
  · refine law_nan x w ?_
    show ((double.read x).order (double.read x) != some .eq) = true
    cases hd : double.read x with
    | number s m p => rw [hd] at hn; simp [Datum.isNaN] at hn
    | infinity s => rw [hd] at hn; simp [Datum.isNaN] at hn
    | nan s t => rfl
  · have hn : (double.read x).isNaN = false := by simpa using hn
    have he : (FloatKind.f64.format.order x x != some .eq) = false := by
      show ((double.read x).order (double.read x) != some .eq) = false
      rw [self_order _ hn]; rfl
    have oa : FloatKind.f64.format.order x 14069245235905429503 = (double.read x).order (.number true 9007199254740991 0) := by rw [← read_b]; rfl
    have ob : FloatKind.f64.format.order x 4845873199050653695 = (double.read x).order (.number false 9007199254740991 0) := by rw [← read_a]; rfl
    have oc : FloatKind.f64.format.order x 14069245235905429504 = (double.read x).order (.number true 4503599627370496 1) := by rw [← read_d]; rfl
    have od : FloatKind.f64.format.order x 4845873199050653696 = (double.read x).order (.number false 4503599627370496 1) := by rw [← read_c]; rfl
    have off_ : (∀ w, Calls Try.prog 15 #[.float .f64 x] w fun e w' => e = .returned (.tuple #[.int .i64 0, .bool false]) ∧ w = w') →
        ((double.read x).order (.number true 4503599627370496 1) = some .gt → (double.read x).order (.number false 4503599627370496 1) ≠ some .lt) → Calls Try.prog 5 #[.float .f64 x] w (Yes w) := by
      intro hc hi
      by_cases h1 : (double.read x).order (.number true 4503599627370496 1) = some .gt
      · exact law_off x 0 w he hc (by rw [oc, h1]; rfl) (by rw [od]; simpa using hi h1)
      · exact law_off1 x 0 w he hc (by rw [oc]; simpa using h1)
    rcases read_cases x hn with ⟨s, hd⟩ | ⟨s, m, p, hd, hm, hp, hbig⟩
    · obtain ⟨i1, i2⟩ := inf_order s
      cases s with
      | true =>
        rw [if_pos rfl] at i1
        exact off_ (impl_any x 0 false fun w => safe_lt x w (by rw [oa, hd, i1]; rfl)) (by rw [hd]; exact i2)
      | false =>
        rw [if_neg (by simp)] at i1
        exact off_ (impl_any x 0 false fun w => safe_gt x w (by rw [oa, hd]; simpa using i1.1) (by rw [ob, hd, i1.2]; rfl)) (by rw [hd]; exact i2)
    · by_cases hp0 : p ≤ 0
      · obtain ⟨l1, l2, l3, l4⟩ := low_order s m p hm hp0
        exact law_safe x (whole s m p) (truncW s m p) w he (impl_any x _ true fun w => safe_yes x _ w (by rw [oa, hd]; simpa using l1) (by rw [ob, hd]; simpa using l2) (whole_int hd hm hp0))
          (by rw [oc, hd, l3]; rfl) (by rw [od, hd, l4]; rfl) (fun w => trunc_walk hd w) (trunc_int s m p hm hp0)
      · obtain ⟨i1, i2, i3⟩ := high_order s m p (hbig (by omega)) (by omega)
        cases s with
        | true =>
          rw [if_pos rfl] at i1
          exact off_ (impl_any x 0 false fun w => safe_lt x w (by rw [oa, hd, i1]; rfl)) (by rw [hd]; exact i3)
        | false =>
          rw [if_neg (by simp)] at i1 i2
          exact off_ (impl_any x 0 false fun w => safe_gt x w (by rw [oa, hd]; simpa using i1) (by rw [ob, hd, i2]; rfl)) (by rw [hd]; exact i3)

end Go.Proofs.Ytifcmhekpbfboaa.Flt
