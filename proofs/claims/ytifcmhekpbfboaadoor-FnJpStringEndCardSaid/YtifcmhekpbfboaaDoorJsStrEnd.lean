/- The walk of jsonparser's search for a string's end: the place behind the first quotation mark ahead of which an even number of backslashes stands, and whether a backslash stands ahead of it. Condition: the bytes that it is handed are read in memory. -/
import Derived.Test.YtifcmhekpbfboaaDoorProg
import Derived.Test.YtifcmhekpbfboaaDoorJsPlain
import Derived.Test.YtifcmhekpbfboaaDoorShelf
import Derived.WalkKit
import Derived.WalkSpells
import Derived.WalkSmall
import Derived.Deep.QuietTactic
import Derived.BigQuiet
import Derived.Deep.DeepCutAuto
import Derived.Deep.CutBlock
import Derived.Deep.LoopGhost
import Derived.StillTailTactics
import Derived.IntWalk
import Derived.Lib.Hide
import Derived.Outline
import Derived.Deep.DeepFit
import Derived.Deep.DeepMust
namespace Go.Proofs.YtifcmhekpbfboaaDoor
open Go.RowKit

/-- A row of bytes that is read. -/
def Bs (w : World) (A : Option Addr) (l : List UInt8) : Prop :=
  l.length ≤ 140737488351232 ∧ (l ≠ [] → ∃ g o, A = some ⟨g, o, none⟩ ∧ ∀ (i : Nat) (h : i < l.length), w.cell? ⟨g, o + i, none⟩ = some (.int .u8 (l[i].toNat)))

/-- The cells of a row of bytes. -/
def Cells (w : World) (g o : Nat) (l : List UInt8) : Prop := ∀ (i : Nat) (h : i < l.length), w.cell? ⟨g, o + i, none⟩ = some (.int .u8 (l[i].toNat))

theorem Cells.keep {w w' : World} {g o : Nat} {l : List UInt8} (h : Cells w g o l) (hb : Below w.heap.size w w') : Cells w' g o l := fun i hi => (hb.cell (p := ⟨g, o + i, none⟩) (World.block_lt_of_cell? w _ (h i hi))).trans (h i hi)
theorem Cells.drop {w : World} {g o : Nat} {l : List UInt8} (h : Cells w g o l) (k : Nat) : Cells w g (o + k) (l.drop k) := fun i hi => by
  have := h (k + i) (by rw [List.length_drop] at hi; omega)
  rw [Nat.add_assoc, this, List.getElem_drop]

theorem word_any (g o n c : Nat) (l : List UInt8) (W : World) (hn : 8 ≤ n) (h8 : 8 ≤ l.length) (hr : Cells W g o l) :
    Calls Tryd.prog 38 #[.agg #[], .slice (some ⟨g, o, none⟩) n c] W fun e w' => e = .returned (.int .u64 (Lib.leNat (l.take 8))) ∧ Below W.heap.size W w' := by
  have e : l.take 8 = [l[0], l[1], l[2], l[3], l[4], l[5], l[6], l[7]] := by
    apply List.ext_getElem
    · simp; omega
    · intro i h1 h2
      simp at h2
      rw [List.getElem_take]
      match i, h2 with
      | 0, _ => rfl
      | 1, _ => rfl
      | 2, _ => rfl
      | 3, _ => rfl
      | 4, _ => rfl
      | 5, _ => rfl
      | 6, _ => rfl
      | 7, _ => rfl
  rw [e]
  exact Tryd.binary_LE_Uint64 g o n c _ _ _ _ _ _ _ _ W hn (hr 0 (by omega)) (hr 1 (by omega)) (hr 2 (by omega)) (hr 3 (by omega)) (hr 4 (by omega)) (hr 5 (by omega)) (hr 6 (by omega)) (hr 7 (by omega))

/-- What the search tells. -/
def strEnd (q : UInt8) (l : List UInt8) : Int × Bool :=
  match closeQ q l with
  | some k => (((k + 1 : Nat) : Int), escQ l k)
  | none => (-1, escQ l l.length)

def StrEndPost (q : UInt8) (l : List UInt8) (w : World) (e : Ending) (w' : World) : Prop :=
  e = .returned (.tuple #[.int .i64 (strEnd q l).1, .bool (strEnd q l).2]) ∧ Below w.heap.size w w'

theorem strEnd_some {q : UInt8} {l : List UInt8} {w w' : World} {k : Nat} {b : Bool} (z : Int) (hc : closeQ q l = some k) (he : escQ l k = b) (hz : z = (k : Int) + 1) (hb : Below w.heap.size w w') :
    StrEndPost q l w (.returned (.tuple #[.int .i64 z, .bool b])) w' := by
  unfold StrEndPost strEnd
  rw [hc]
  simp only
  rw [he, hz]
  exact ⟨rfl, hb⟩
theorem strEnd_none {q : UInt8} {l : List UInt8} {w w' : World} (hc : closeQ q l = none) (hb : Below w.heap.size w w') :
    StrEndPost q l w (.returned (.tuple #[.int .i64 (-1), .bool (escQ l l.length)])) w' := by
  unfold StrEndPost strEnd
  rw [hc]
  exact ⟨rfl, hb⟩

set_option maxHeartbeats 400000 in
set_option maxRecDepth 100000 in
theorem strEnd_any (q : UInt8) (hq : q = 34 ∨ q = 39) (cf : Array Value) (hcf : cf.size = 3) (g o c : Nat) (l : List UInt8) (w : World) (hl : l.length ≤ 140737488351232) (hc : l.length ≤ c) (hr : Cells w g o l) :
    Calls Tryd.prog 33 #[.agg cf, .slice (some ⟨g, o, none⟩) l.length c, .int .u8 q.toNat] w (StrEndPost q l w) := by
  obtain ⟨x0, x1, x2, rfl⟩ : ∃ x0 x1 x2, cf = #[x0, x1, x2] := by
    match cf, hcf with
    | ⟨[a, b, c]⟩, _ => exact ⟨a, b, c, rfl⟩
  have HR := Lib.hid hr
  clear hr hcf
  have hwq : IntKind.u64.wrap (q.toNat : Int) = (q.toNat : Int) := wraps_u64 _ (by omega) (by have := q.toNat_lt; omega)
  obtain ⟨bq, hbq⟩ : ∃ bq : Int, IntKind.u64.wrap ((q.toNat : Int) * 72340172838076673) = bq := ⟨_, rfl⟩
  have HBQ : Hid (IntKind.u64.wrap (IntKind.u64.wrap q.toNat * 72340172838076673) = bq) := Lib.hid (by rw [hwq]; exact hbq)
  go_enter Tryd.func33, Tryd.ntmps33
  go_upto_block 0 with (fail)
  go_cut [10] (fun i wc => ∃ k : Nat, k ≤ l.length ∧ i = .int .i64 k ∧ Hid (∀ j : Nat, j < k → l[j]? ≠ some q ∧ l[j]? ≠ some 92) ∧ Below w.heap.size w wc)
  case first =>
    go_wp2
    clear hwq hbq
    go_loopg [10] l.length (fun gk i wc => ∃ k : Nat, k ≤ l.length ∧ i = .int .i64 k ∧ Hid (∀ j : Nat, j < k → l[j]? ≠ some q ∧ l[j]? ≠ some 92) ∧ Below w.heap.size w wc ∧ gk + k = l.length)
    case atStart => exact ⟨0, by omega, rfl, Lib.hid (fun j hj => absurd hj (by omega)), (Below.refl _ _).alloc (Nat.le_refl _) _, by omega⟩
    case round =>
      obtain ⟨k, hk, rfl, hA, hb0, hgk⟩ := hrel
      by_cases h8 : k + 8 ≤ l.length
      · have hkc : k < c := by omega
        have hd := (HR.out.keep hb0).drop k
        have hdl : (l.drop k).length = l.length - k := List.length_drop
        have HU := Lib.hid fun W (hW : Cells W g (o + k) (l.drop k)) => word_any g (o + k) (l.length - k) (c - k) (l.drop k) W (by omega) (by omega) hW
        have HD := Lib.hid hd
        obtain ⟨m, hm⟩ : ∃ m, m = Lib.leNat ((l.drop k).take 8) := ⟨_, rfl⟩
        rw [← hm] at HU
        have HM := Lib.hid hm
        clear hd hdl hm
        go_upto_region 6 with (fail)
        go_cut [12] (fun v wc => v = .int .u64 m ∧ Below w.heap.size w wc)
        case first =>
          go_region_with (go_at_call 38; rw [if_neg (show ¬ c = k by omega)]; go_must (go_fit (HU.out _ (HD.out.keep (Below.refl _ _).drew))); rintro e w' ⟨rfl, hb⟩)
          all_goals (try go_wp2_with fail)
          all_goals go_meet
          all_goals exact ⟨rfl, hb0.trans ((Below.refl _ _).drew.trans hb |>.mono hb0.size)⟩
        case rest =>
          obtain ⟨rfl, hb1⟩ := hcut
          go_wp2
          · have h0 : (bits BinOp.or IntKind.u64 (hitZ m bq) (hitZ m 6655295901103053916) == 0) = true := by unfold hitZ; assumption
            have hs := swar_skip q l k m h8 HM.out (by rw [HBQ.out]; exact h0)
            have HS := Lib.hid hs
            go_roundg (gk - 8)
            case rel => exact ⟨k + 8, h8, by go_num, Lib.hid (fun j hj => by
                by_cases e : j < k
                · exact hA.out j e
                · exact HS.out j (by omega) hj), hb1, by omega⟩
            case measure => omega
          · go_meet
            case rel => exact ⟨k, by omega, rfl, hA, hb1⟩
      · go_wp2
        go_meet
        case rel => exact ⟨k, by omega, rfl, hA, hb0⟩
  case rest =>
    obtain ⟨k0, hk0, rfl, hA0, hb⟩ := hcut
    clear hwq hbq
    have hq92 : (q.toNat : Int) ≤ 92 := by rcases hq with rfl | rfl <;> decide
    have hqb : ((q.toNat : Int) == 92) = false := by rcases hq with rfl | rfl <;> decide
    have hqn : ¬ q = 92 := by rcases hq with rfl | rfl <;> decide
    have HQN := Lib.hid hqn
    have E0 : Hid (escQ l k0 = false) := Lib.hid (escQ_none fun j hj => (hA0.out j hj).2)
    have C0 : Hid (∀ j, j < k0 → closesQ q l j = false) := Lib.hid (fun j hj => closesQ_not (hA0.out j hj).1)
    have hr := HR.out.keep hb
    have HC := Lib.hid hr
    clear hA0 hr hq hqn
    go_wp2
    go_loop [10, 17] (fun i e => ∃ k : Nat, k ≤ l.length ∧ i = .int .i64 k ∧ e = .bool (escQ l k) ∧ Hid (∀ j, j < k → closesQ q l j = false)) (fun i _ => l.length - (intOf i).toNat)
    case atStart => exact ⟨k0, hk0, rfl, by rw [E0.out], C0⟩
    case round =>
      clear E0 C0
      obtain ⟨k, hk, rfl, rfl, hC⟩ := hrel
      by_cases hlt : k < l.length
      · have hcell := HC.out k hlt
        obtain ⟨x, hx⟩ : ∃ x, x = l[k] := ⟨_, rfl⟩
        rw [← hx] at hcell
        have hget : l[k]? = some x := by rw [List.getElem?_eq_getElem hlt, hx]
        have HX := Lib.hid hget
        clear hx hget
        have next : x ≠ q → Hid (∀ j, j < k + 1 → closesQ q l j = false) := fun hne => Lib.hid fun j hj => by
          by_cases e : j = k
          · subst e; exact closesQ_not (by rw [HX.out]; simpa using hne)
          · exact hC.out j (by omega)
        have NX := Lib.hid next
        clear next
        by_cases hgt : 92 < (x.toNat : Int)
        · have b1 : decide (92 < (x.toNat : Int)) = true := decide_eq_true hgt
          have hne : x ≠ q := fun e => by rw [e] at hgt; omega
          have hn92 : x ≠ 92 := fun e => by rw [e] at hgt; exact absurd hgt (by decide)
          have E1 : Hid (escQ l (k + 1) = escQ l k) := Lib.hid (by rw [escQ_succ HX.out]; simp [hn92])
          have C1 := NX.out hne
          clear hne hn92
          go_wp2
          go_round
          case rel => exact ⟨k + 1, by omega, by go_num, by rw [E1.out], C1⟩
          case measure => simp [intOf]; omega
        · have b1 : decide (92 < (x.toNat : Int)) = false := decide_eq_false hgt
          by_cases hxq : x = q
          · subst hxq
            cases hesc : escQ l k with
            | false =>
              have R := Lib.hid (escQ_run hesc)
              have HCL : Hid (closeQ x l = some k) := Lib.hid (closeQ_some hlt (closesQ_yes HX.out (by rw [R.out])) hC.out)
              have HE := Lib.hid hesc
              clear hesc
              go_wp2
              go_ret2
              exact strEnd_some _ HCL.out HE.out rfl hb
            | true =>
              have HE := Lib.hid hesc
              have hk0 : k ≠ 0 := fun e => by rw [e, escQ_zero] at hesc; simp at hesc
              obtain ⟨k1, rfl⟩ : ∃ m, k = m + 1 := ⟨k - 1, by omega⟩
              clear hesc hk0
              have HRL := runQ_le l (k1 + 1)
              obtain ⟨rn, hrn⟩ : ∃ rn, rn = runQ l (k1 + 1) := ⟨_, rfl⟩
              rw [← hrn] at HRL
              have HRN := Lib.hid hrn
              clear hrn
              go_wp2
              go_loop [19] (fun j => ∃ n t : Nat, n + t = k1 + 1 ∧ t % 2 = 0 ∧ t ≤ rn ∧ ((n = 0 ∧ j = .int .i64 (-1)) ∨ ∃ p : Nat, n = p + 1 ∧ j = .int .i64 p)) (fun j => (intOf j + 1).toNat)
              case atStart => exact ⟨k1 + 1, 0, by omega, by omega, by omega, .inr ⟨k1, rfl, by go_num⟩⟩
              case round =>
                obtain ⟨n, t, hnt, ht2, htr, hj⟩ := hrel
                rcases hj with ⟨rfl, rfl⟩ | ⟨p, rfl, rfl⟩
                · have HP : Hid (runQ l (k1 + 1) % 2 = 0) := Lib.hid (by rw [← HRN.out]; omega)
                  have HCL : Hid (closeQ x l = some (k1 + 1)) := Lib.hid (closeQ_some hlt (closesQ_yes HX.out HP.out) hC.out)
                  go_wp2
                  go_ret2
                  exact strEnd_some ((k1 : Int) + 1 + 1) HCL.out HE.out (by omega) hb
                · have hpl : p < l.length := by omega
                  have hpc := HC.out p hpl
                  by_cases hte : t = rn
                  · have HP : Hid (runQ l (k1 + 1) % 2 = 0) := Lib.hid (by rw [← HRN.out]; omega)
                    have HCL : Hid (closeQ x l = some (k1 + 1)) := Lib.hid (closeQ_some hlt (closesQ_yes HX.out HP.out) hC.out)
                    have h92 : l[p]? ≠ some 92 := by
                      have := runQ_end l (k1 + 1) (by rw [← HRN.out]; omega)
                      rwa [← HRN.out, show k1 + 1 - 1 - rn = p by omega] at this
                    obtain ⟨y, hy⟩ : ∃ y, y = l[p] := ⟨_, rfl⟩
                    rw [← hy] at hpc
                    have b2 : ((y.toNat : Int) != 92) = true := by
                      rw [List.getElem?_eq_getElem hpl, ← hy] at h92
                      simp only [bne_iff_ne, ne_eq]
                      intro e
                      exact h92 (by rw [show y = 92 from UInt8.toNat_inj.1 (by show y.toNat = 92; omega)])
                    clear h92 hy hte
                    go_wp2
                    go_ret2
                    exact strEnd_some ((k1 : Int) + 1 + 1) HCL.out HE.out (by omega) hb
                  · have hin : ∀ m, m < rn → l[k1 - m]? = some 92 := fun m hm => by
                      have := runQ_in l (k1 + 1) m (by rw [← HRN.out]; exact hm)
                      rwa [show k1 + 1 - 1 - m = k1 - m by omega] at this
                    have hp92 := hin t (by omega)
                    rw [show k1 - t = p by omega, List.getElem?_eq_getElem hpl] at hp92
                    have hp92' := Option.some.inj hp92
                    rw [hp92'] at hpc
                    have HIN := Lib.hid hin
                    clear hin hp92 hp92'
                    have E2 : Hid (escQ l (k1 + 1 + 1) = true) := Lib.hid (by rw [escQ_succ HX.out, HE.out]; rfl)
                    cases p with
                    | zero =>
                      rw [Nat.add_zero] at hpc
                      have hrt : rn = t + 1 := by omega
                      have HP : Hid (∀ j, j < k1 + 1 + 1 → closesQ x l j = false) := Lib.hid fun j hj => by
                        by_cases e : j = k1 + 1
                        · subst e; exact closesQ_odd (by rw [← HRN.out]; omega)
                        · exact hC.out j (by omega)
                      clear hrt
                      go_wp2
                      go_round
                      case rel => exact ⟨k1 + 1 + 1, by omega, by go_num, by rw [E2.out], HP⟩
                      case measure => simp [intOf]; omega
                    | succ p =>
                      have hpc2 := HC.out p (by omega)
                      by_cases hte2 : t + 1 = rn
                      · have HP : Hid (∀ j, j < k1 + 1 + 1 → closesQ x l j = false) := Lib.hid fun j hj => by
                          by_cases e : j = k1 + 1
                          · subst e; exact closesQ_odd (by rw [← HRN.out]; omega)
                          · exact hC.out j (by omega)
                        have h92 : l[p]? ≠ some 92 := by
                          have := runQ_end l (k1 + 1) (by rw [← HRN.out]; omega)
                          rwa [← HRN.out, show k1 + 1 - 1 - rn = p by omega] at this
                        obtain ⟨y, hy⟩ : ∃ y, y = l[p]'(by omega) := ⟨_, rfl⟩
                        rw [← hy] at hpc2
                        have b2 : ((y.toNat : Int) != 92) = true := by
                          rw [List.getElem?_eq_getElem (by omega), ← hy] at h92
                          simp only [bne_iff_ne, ne_eq]
                          intro e
                          exact h92 (by rw [show y = 92 from UInt8.toNat_inj.1 (by show y.toNat = 92; omega)])
                        clear h92 hy hte2
                        go_wp2
                        go_round
                        case rel => exact ⟨k1 + 1 + 1, by omega, by go_num, by rw [E2.out], HP⟩
                        case measure => simp [intOf]; omega
                      · have hp92 := HIN.out (t + 1) (by omega)
                        rw [show k1 - (t + 1) = p by omega, List.getElem?_eq_getElem (by omega)] at hp92
                        have hp92' := Option.some.inj hp92
                        rw [hp92'] at hpc2
                        clear hp92 hp92'
                        go_wp2
                        go_round
                        case rel =>
                          cases p with
                          | zero => exact ⟨0, t + 2, by omega, by omega, by omega, .inl ⟨rfl, by go_num⟩⟩
                          | succ p => exact ⟨p + 1, t + 2, by omega, by omega, by omega, .inr ⟨p, rfl, by go_num⟩⟩
                        case measure => simp [intOf]; omega
          · have hxb : ((x.toNat : Int) == (q.toNat : Int)) = false := by
              simp only [beq_eq_false_iff_ne]
              intro e
              exact hxq (UInt8.toNat_inj.1 (by omega))
            have C1 := NX.out hxq
            by_cases h92 : x = 92
            · subst h92
              have E1 : Hid (escQ l (k + 1) = true) := Lib.hid (by rw [escQ_succ HX.out]; simp)
              clear hxq
              go_wp2
              go_round
              case rel => exact ⟨k + 1, by omega, by go_num, by rw [E1.out], C1⟩
              case measure => simp [intOf]; omega
            · have b2 : ((x.toNat : Int) == 92) = false := by
                simp only [beq_eq_false_iff_ne]
                intro e
                exact h92 (UInt8.toNat_inj.1 (by show x.toNat = 92; omega))
              have E1 : Hid (escQ l (k + 1) = escQ l k) := Lib.hid (by rw [escQ_succ HX.out]; simp [h92])
              clear hxq h92
              go_wp2
              go_round
              case rel => exact ⟨k + 1, by omega, by go_num, by rw [E1.out], C1⟩
              case measure => simp [intOf]; omega
      · obtain rfl : k = l.length := by omega
        have HCL := Lib.hid (closeQ_none hC.out)
        go_wp2
        go_ret2
        exact strEnd_none HCL.out hb

end Go.Proofs.YtifcmhekpbfboaaDoor
