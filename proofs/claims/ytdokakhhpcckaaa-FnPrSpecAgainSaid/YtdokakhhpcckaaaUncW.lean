/- The walk of spec.Uncommented. Condition: the text takes at most 2^31 - 1 bytes. -/
import Derived.Test.YtdokakhhpcckaaaUnc
namespace Go.Proofs.Ytdokakhhpcckaaa
open Go.RowKit Go.Proofs.Ytdokakhhpcckaaa.MFnPrSpecAgain Go.Proofs.YtdokakhhpcckaaaW.PrintWords Go.Proofs.YtdokakhhpcckaaaW.PrintLast Go.Proofs.Ytdokakhhpcckaaa.Pure

/-- The row of bytes at block B. -/
structure OutR (w wc : World) (B n : Nat) (bs : List UInt8) : Prop where
  below : Below w.heap.size w wc
  base : w.heap.size ≤ B
  lt : B < wc.heap.size
  len : bs.length = n
  cell : ∀ j b, bs[j]? = some b → wc.cell? ⟨B, j, none⟩ = some (bv b)
  free : ∀ j, j < n → wc.frozen? ⟨B, j, none⟩ = false

theorem OutR.keep {w wc w' : World} {B n : Nat} {bs : List UInt8} (h : OutR w wc B n bs) (hb : Below w.heap.size w w') (hs : wc.heap.size ≤ w'.heap.size) (hk : w'.heap[B]? = wc.heap[B]?) : OutR w w' B n bs :=
  ⟨hb, h.base, Nat.lt_of_lt_of_le h.lt hs, h.len, fun j b hj => (World.cell?_of_block (a := ⟨B, j, none⟩) hk).trans (h.cell j b hj), fun j hj => (World.frozen?_of_block (a := ⟨B, j, none⟩) hk).trans (h.free j hj)⟩
theorem OutR.drawn {w wc w' : World} {B n : Nat} {bs : List UInt8} (h : OutR w wc B n bs) (hd : Drawn0 wc w') : OutR w w' B n bs := by
  obtain ⟨k, rfl⟩ := hd.out
  exact h.keep (jqd h.below k) (Nat.le_refl _) rfl
where jqd {B : Nat} {a w : World} (h : Below B a w) (n : Nat) : Below B a (w.drewN n) := h.trans ⟨rfl, rfl, rfl, Nat.le_refl _, fun _ _ => rfl⟩
theorem OutR.set {w wc : World} {B n : Nat} {bs : List UInt8} (h : OutR w wc B n bs) (j : Nat) (hj : j < n) (c : UInt8) : OutR w (wc.setCell ⟨B, j, none⟩ (bv c)) B n (bs.set j c) := by
  have hb : j < bs.length := by rw [h.len]; exact hj
  refine ⟨h.below.setCell h.base _, h.base, by simpa using h.lt, by rw [List.length_set]; exact h.len, fun i b hi => ?_, fun i hi => ?_⟩
  · by_cases e : i = j
    · subst e
      rw [List.getElem?_set_self hb] at hi
      obtain rfl := Option.some.inj hi
      exact World.cell?_setCell_same _ _ _ (h.cell i _ (List.getElem?_eq_getElem hb))
    · rw [List.getElem?_set_ne (fun x => e x.symm)] at hi
      rw [World.cell?_setCell_other _ _ _ _ (by simp)]
      exact h.cell i b hi
  · rw [World.frozen?_setCell]; exact h.free i hi

theorem OutR.string {w wc : World} {B n : Nat} {bs : List UInt8} (h : OutR w wc B n bs) (cap : Nat) : (convert 26 9 (.slice (some ⟨B, 0, none⟩) n cap)).run Try.prog wc = .ok (.string ⟨bs.toArray⟩) wc := by
  have hl := run_loadCells_list (P := Try.prog) wc ⟨B, 0, none⟩ (bs.map bv) (fun j u hj => by
    have hadd : (⟨B, 0, none⟩ : Addr).add j = ⟨B, j, none⟩ := by unfold Addr.add; split <;> simp_all
    rw [hadd]
    rw [List.getElem?_map] at hj
    cases hq : bs[j]? with
    | none => rw [hq] at hj; cases hj
    | some q => rw [hq] at hj; simp at hj; subst hj; exact h.cell j q hq)
  have hm : bs.map bv = (bs.map (fun b => (b.toNat : Int))).map (Value.int .u8) := by simp [bv]
  have hln : (bs.map bv).length = n := by rw [List.length_map]; exact h.len
  rw [hln, hm] at hl
  rw [run_convert_bytes_string wc 26 9 5 _ _ cap Try.underlying26 Try.underlying5 Try.underlying9, run_bytesToString wc _ _ cap (bs.map (fun b => (b.toNat : Int))) hl, foldl_push_byteCells]
  simp [ByteArray.empty, ByteArray.emptyWithCapacity]
  rfl

def UPost (t : ByteArray) (W : World) : Ending → World → Prop := fun e w' => ∃ (s : ByteArray) (b : Bool), e = .returned (.tuple #[.string s, .bool b]) ∧ Below W.heap.size W w' ∧ (b = true → UncR t t.data.toList (-1) 0 s.data.toList ∧ ∃ T, JText s.data.toList T)

theorem unc_conv (W : World) (x : ByteArray) (hx : x.size ≤ 140737488351232) : ∃ cap w1, (convert 9 26 (.string x)).run Try.prog W = .ok (.slice (some ⟨W.heap.size, 0, none⟩) x.size cap) w1 ∧ OutR W w1 W.heap.size x.size x.data.toList ∧ x.size ≤ cap ∧ cap ≤ maxLen := by
  have hrow := Brow.conv W 5 x (by simp only [maxLen]; omega)
  refine ⟨_, _, Lib.run_convert_string_bytes W 9 26 5 x (u := .string) Try.underlying9 Try.underlying26 Try.underlying5, ?_, grownCap_ge _ _ _ _, grownCap_le_maxLen _ _ _ _ (by simp only [maxLen]; omega)⟩
  obtain ⟨g, cap, e, h1, h2, h3, h4, h5, h6⟩ := hrow
  have hl : x.data.toList.length = x.size := by rw [Array.length_toList]; rfl
  have hge : x.size ≤ cap := by rw [← hl]; exact h3
  obtain ⟨rfl, _, rfl⟩ : W.heap.size = g ∧ True ∧ grownCap W x.size 0 5 = cap := by
    injection e with e1 e2 e3
    injection e1 with e1
    injection e1 with e1
    exact ⟨e1, trivial, e3⟩
  exact ⟨((Below.refl _ _).grown (grown_bytes W 5 x) (Nat.le_refl _) (by intro k hk; cases hk)), Nat.le_refl _, h2, hl, h5, fun j hj => (h6 j (by omega)).2⟩

theorem blankTo_start (out : List UInt8) (p : Nat) : blankTo out p p = out := by
  unfold blankTo
  simp
theorem blankTo_len (out : List UInt8) (p i : Nat) (h : p ≤ i) (hi : i ≤ out.length) : (blankTo out p i).length = out.length := by
  unfold blankTo
  simp only [List.length_append, List.length_take, List.length_map, List.length_drop]
  omega
theorem blankTo_get (out : List UInt8) (p i : Nat) (h : p ≤ i) (hi : i < out.length) : (blankTo out p i)[i]? = out[i]? := by
  unfold blankTo
  rw [List.getElem?_append_right (by simp only [List.length_append, List.length_take, List.length_map, List.length_drop]; omega)]
  rw [List.getElem?_drop]
  congr 1
  simp only [List.length_append, List.length_take, List.length_map, List.length_drop]
  omega
theorem blankTo_step (out : List UInt8) (p i : Nat) (h : p ≤ i) (hi : i < out.length) : blankTo out p (i + 1) = (blankTo out p i).set i (bl (out[i])) := by
  apply List.ext_getElem?
  intro j
  have hl1 := blankTo_len out p (i + 1) (by omega) hi
  have hl0 := blankTo_len out p i h (by omega)
  have key : ∀ m, p ≤ m → m ≤ out.length → ∀ j, (blankTo out p m)[j]? = if j < p then out[j]? else if j < m then (out[j]?).map bl else out[j]? := by
    intro m hm hml j
    unfold blankTo
    by_cases h1 : j < p
    · rw [if_pos h1, List.getElem?_append_left (by simp only [List.length_append, List.length_take]; omega), List.getElem?_append_left (by simp only [List.length_take]; omega), List.getElem?_take, if_pos h1]
    · rw [if_neg h1]
      by_cases h2 : j < m
      · rw [if_pos h2, List.getElem?_append_left (by simp only [List.length_append, List.length_take, List.length_map, List.length_drop]; omega), List.getElem?_append_right (by simp only [List.length_take]; omega), List.getElem?_map, List.getElem?_take, List.getElem?_drop, if_pos (by simp only [List.length_take]; omega)]
        congr 2
        simp only [List.length_take]
        omega
      · rw [if_neg h2, List.getElem?_append_right (by simp only [List.length_append, List.length_take, List.length_map, List.length_drop]; omega), List.getElem?_drop]
        congr 1
        simp only [List.length_append, List.length_take, List.length_map, List.length_drop]
        omega
  rw [key (i + 1) (by omega) hi, List.getElem?_set]
  by_cases e : i = j
  · subst e
    rw [if_neg (by omega), if_pos (by omega), if_pos rfl, if_pos (by omega), List.getElem?_eq_getElem hi]
    rfl
  · rw [if_neg e, key i h (by omega)]
    by_cases h1 : j < p
    · rw [if_pos h1, if_pos h1]
    · rw [if_neg h1, if_neg h1]
      by_cases h2 : j < i
      · rw [if_pos (by omega), if_pos h2]
      · rw [if_neg (by omega), if_neg h2]

set_option maxHeartbeats 2000000 in
set_option maxRecDepth 100000 in
theorem unc_any (t : ByteArray) (w : World) (hs : t.size ≤ 2147483647) :
    Calls Try.prog 4 #[.string t] w (UPost t w) := by
  obtain ⟨cap, w1, hcv, hrow, hcap, hmx⟩ := unc_conv w t (by omega)
  have HR := Lib.hid hrow
  have hm : cap ≤ 9223372036854775807 := by simp only [maxLen] at hmx; omega
  obtain ⟨B, hB⟩ : ∃ B, B = w.heap.size := ⟨_, rfl⟩
  rw [← hB] at hcv HR
  clear hrow hmx hB
  go_enter Try.func4, Try.ntmps4
  go_wp2
  go_loopg [5, 6] (t.size + 1) (fun g v5 v6 wc => ∃ (last : Int) (p : Nat) (out : List UInt8), v5 = .int .i64 last ∧ v6 = .int .i64 (p : Int) ∧ Hid (OutR w wc B t.size out) ∧ (p ≤ t.size ∧ t.size < p + g ∧ -1 ≤ last ∧ last < (p : Int)) ∧ Hid (∀ F, UncR t out last p F → UncR t t.data.toList (-1) 0 F))
  case atStart => exact ⟨-1, 0, _, by go_num, by go_num, HR, by omega, Lib.hid fun F h => h⟩
  case round =>
    clear HR
    obtain ⟨last, p, out, rfl, rfl, HR, hN, HU⟩ := hrel
    cases gk with
    | zero => omega
    | succ j =>
    by_cases hlt : p < t.size
    · have hP : p < t.size ∧ True := ⟨hlt, trivial⟩
      obtain ⟨q, b, ⟨K, hK⟩, hF⟩ := cmt_f hs p hlt
      have HC := Lib.hid (spec_comment.calls K t (p : Int) (q : Int) b wr (hK K (Nat.le_refl _)))
      have HF := Lib.hid hF
      clear hF hK
      cases b with
      | false =>
        go_wp2_with (first | (go_at_call 7; refine HC.out.mono ?_; rintro e w2 ⟨rfl, hd⟩; have HD := Lib.hid hd; clear hd) | fail)
        go_ret2
        exact ⟨⟨#[]⟩, false, rfl, (HR.out.drawn HD.out).below, fun h => by cases h⟩
      | true =>
        obtain ⟨hq1, hq2, hq3, hq4⟩ := HF.out rfl
        have HQ2 := Lib.hid hq2
        have HQ3 := Lib.hid hq3
        have HQ4 := Lib.hid hq4
        clear hq2 hq3 hq4 HF
        by_cases h47 : t[p]'hP.1 = 47
        · have hpq := HQ3.out h47
          have bq : decide ((p : Int) < (q : Int)) = true := decide_eq_true (by omega)
          have bq2 : (p < q) = True := eq_true hpq
          have H47 := Lib.hid h47
          clear h47
          go_wp2_with (first | (go_at_call 7; refine HC.out.mono ?_; rintro e w2 ⟨rfl, hd⟩; have HR2 := Lib.hid (HR.out.drawn hd); clear hd) | fail)
          go_loopg [6] (t.size + 1) (fun g v6 wc => ∃ i : Nat, v6 = .int .i64 (i : Int) ∧ (p ≤ i ∧ i ≤ q ∧ t.size < i + g) ∧ Hid (OutR w wc B t.size (blankTo out p i)))
          case atStart => exact ⟨p, rfl, by omega, by rw [blankTo_start]; exact HR2⟩
          case round =>
            clear HR2
            obtain ⟨i, rfl, hI, HR2⟩ := hrel
            cases gk with
            | zero => omega
            | succ j2 =>
            have hol : out.length = t.size := HR.out.len
            by_cases hiq : i < q
            · have bi : decide ((i : Int) < (q : Int)) = true := decide_eq_true (by omega)
              have bi2 : (i < q) = True := eq_true hiq
              have hib : i < out.length := by omega
              have hin : i < t.size := by omega
              obtain ⟨c, hc⟩ : ∃ c, c = out[i] := ⟨_, rfl⟩
              have hg : (blankTo out p i)[i]? = some c := by rw [blankTo_get out p i hI.1 hib, List.getElem?_eq_getElem hib, hc]
              have hcell : wr.cell? ⟨B, i, none⟩ = some (.int .u8 (c.toNat : Int)) := HR2.out.cell i c hg
              have hfree := HR2.out.free i hin
              have hstep := blankTo_step out p i hI.1 hib
              rw [← hc] at hstep
              have hset := HR2.out.set i hin (bl c)
              rw [← hstep] at hset
              have hsame : bl c = c → OutR w wr B t.size (blankTo out p (i + 1)) := by
                intro e
                rw [hstep, e]
                have : (blankTo out p i).set i c = blankTo out p i := by
                  apply List.ext_getElem?
                  intro k
                  rw [List.getElem?_set]
                  by_cases hk : i = k
                  · subst hk
                    rw [if_pos rfl, hg]
                    split
                    · rfl
                    · rename_i h1
                      rw [List.getElem?_eq_none (by omega)] at hg
                      cases hg
                  · rw [if_neg hk]
                rw [this]
                exact HR2.out
              have HSAME := Lib.hid hsame
              have HSET := Lib.hid hset
              clear hsame hset hstep hg hc
              have hcl : (0 : Int) ≤ (c.toNat : Int) ∧ (c.toNat : Int) ≤ 255 := by have := c.toNat_lt; omega
              by_cases h10 : c = 10
              · have b10 : ((c.toNat : Int) == 10) = true := by rw [h10]; rfl
                have n10 : ((c.toNat : Int) != 10) = false := by rw [h10]; rfl
                have H2 := Lib.hid (HSAME.out (by rw [h10]; rfl))
                clear h10
                go_wp2
                go_roundg j2
                case rel => exact ⟨i + 1, by go_num, by omega, H2⟩
                case measure => omega
              · have b10 : ((c.toNat : Int) == 10) = false := by rw [beq_eq_false_iff_ne]; intro e; exact h10 (UInt8.toNat_inj.1 (by rw [show (10 : UInt8).toNat = 10 from rfl]; omega))
                have n10 : ((c.toNat : Int) != 10) = true := by rw [bne, b10]; rfl
                have hb32 : bl c = 32 := by unfold bl; rw [if_neg h10]
                have H2 : Hid (OutR w (wr.setCell ⟨B, i, none⟩ (.int .u8 32)) B t.size (blankTo out p (i + 1))) := Lib.hid (by have h := HSET.out; rw [hb32] at h; exact h)
                clear h10 hb32
                go_wp2
                go_roundg j2
                case rel => exact ⟨i + 1, by go_num, by omega, H2⟩
                case measure => omega
            · have hqi : i = q := by omega
              subst hqi
              have bi : decide ((i : Int) < (i : Int)) = false := decide_eq_false (by omega)
              have bi2 : (i < i) = False := eq_false (Nat.lt_irrefl _)
              clear hiq
              go_wp2
              go_roundg j
              case rel => exact ⟨last, i, blankTo out p i, by go_num, by go_num, HR2, by omega, Lib.hid fun F h => HU.out F (.cmt out last p i F hP.1 H47.out HQ2.out ⟨hpq, hq1.2⟩ h)⟩
              case measure => omega
        · have hpq := HQ4.out h47
          subst hpq
          have H47 := Lib.hid h47
          have bq : decide ((q : Int) < (q : Int)) = false := decide_eq_false (by omega)
          have bq2 : (q < q) = False := eq_false (Nat.lt_irrefl _)
          clear h47
          by_cases h34 : t[q]'hP.1 = 34
          · have b34 : (((t[q]'hP.1).toNat : Int) == 34) = true := by rw [h34]; rfl
            have hv34 : hv t q = 34 := by unfold hv; rw [dif_pos hP.1, h34]; rfl
            obtain ⟨b2, q2, ⟨K2, hK2⟩, hq12, hF2⟩ := quoted_f hs q hv34
            have HE2 := Lib.hid (hK2 K2 (Nat.le_refl _))
            have HF2 := Lib.hid hF2
            clear h34 hv34 hK2 hF2
            cases b2 with
            | false =>
              go_wp2_with (first | (go_at_call 7; refine HC.out.mono ?_; rintro e w2 ⟨rfl, hd⟩; have HR2 := Lib.hid (HR.out.drawn hd); have C2 := Lib.hid (spec_reader_quoted.calls K2 w2.heap.size t (q : Int) false t (q2 : Int) w (w2.alloc (.cells #[.string t, .int .i64 (q : Int)] 30)) ⟨heap_alloc_new _ _, HR2.out.below.size⟩ (HR2.out.below.alloc HR2.out.below.size _) HE2.out); clear hd) | (go_at_call 8; refine C2.out.mono ?_; rintro e w3 ⟨rfl, hI3, hB3, hK3⟩; have HB3 := Lib.hid hB3; clear hI3 hB3 hK3) | fail)
              go_ret2
              exact ⟨⟨#[]⟩, false, rfl, HB3.out, fun h => by cases h⟩
            | true =>
              go_wp2_with (first | (go_at_call 7; refine HC.out.mono ?_; rintro e w2 ⟨rfl, hd⟩; have HR2 := Lib.hid (HR.out.drawn hd); have C2 := Lib.hid (spec_reader_quoted.calls K2 w2.heap.size t (q : Int) true t (q2 : Int) w (w2.alloc (.cells #[.string t, .int .i64 (q : Int)] 30)) ⟨heap_alloc_new _ _, HR2.out.below.size⟩ (HR2.out.below.alloc HR2.out.below.size _) HE2.out); clear hd) | (go_at_call 8; refine C2.out.mono ?_; rintro e w3 ⟨rfl, hI3, hB3, hK3⟩; have z1 : w3.cell? ⟨w2.heap.size, 1, none⟩ = some (.int .i64 (q2 : Int)) := (cell_of_row _ _ 1 _ _ _ hI3.1).trans rfl; have HR3 : Hid (OutR w w3 B t.size out) := Lib.hid ((HR2.out.keep (HR2.out.below.alloc HR2.out.below.size _) (by simp) (Below.heap_alloc _ _ _ HR2.out.lt)).keep hB3 hK3.1 (hK3.2 B (by have := HR2.out.lt; simp; omega) (by have := HR2.out.lt; omega) (by simp))); clear hI3 hB3 hK3) | fail)
              go_quiet (fail)
              go_wp2
              go_roundg j
              case rel => exact ⟨(q : Int), q2, out, by go_num, by go_num, Lib.hid (HR3.out.drawn ⟨⟨_, rfl⟩⟩), by omega, Lib.hid fun F h => by
                obtain ⟨s, e1, e2⟩ := HF2.out trivial
                exact HU.out F (.str out last q q2 s F e1 e2 hq12 h)⟩
              case measure => omega
          · have b34 : (((t[q]'hP.1).toNat : Int) == 34) = false := by rw [beq_eq_false_iff_ne]; intro e; exact h34 (UInt8.toNat_inj.1 (by rw [show (34 : UInt8).toNat = 34 from rfl]; omega))
            have H34 := Lib.hid h34
            clear h34
            obtain ⟨cl, hcl⟩ : ∃ cl : Bool, cl = true ↔ ((t[q]'hP.1 = 125 ∨ t[q]'hP.1 = 93) ∧ ∃ (j : Nat) (hj : j < t.size), last = (j : Int) ∧ t[j] = 44) := (Classical.em _).elim (fun h => ⟨true, iff_of_true rfl h⟩) (fun h => ⟨false, iff_of_false (by decide) h⟩)
            have HCL := Lib.hid hcl
            clear hcl
            have ne8 : ∀ (c : UInt8) (n : Nat), n < 256 → c ≠ UInt8.ofNat n → ((c.toNat : Int) == (n : Int)) = false := by
              intro c n hn h
              rw [beq_eq_false_iff_ne]
              exact fun e => h ((u8e hn).1 e)
            have NE8 := Lib.hid ne8
            clear ne8
            go_upto_region 19 with (first | (go_at_call 7; refine HC.out.mono ?_; rintro e w2 ⟨rfl, hd⟩; have HR2 := Lib.hid (HR.out.drawn hd); clear hd) | fail)
            go_cut [59] (fun v wc => v = .bool cl ∧ w2 = wc)
            case first =>
              have key : (t[q]'hP.1 = 125 ∨ t[q]'hP.1 = 93) → Hid (t[q]'hP.1 = 125 ∧ (((t[q]'hP.1).toNat : Int) == 125) = true ∨ ((((t[q]'hP.1).toNat : Int) == 125) = false ∧ (((t[q]'hP.1).toNat : Int) == 93) = true)) := by
                intro h
                by_cases h1 : t[q]'hP.1 = 125
                · exact Lib.hid (.inl ⟨h1, by rw [h1]; rfl⟩)
                · exact Lib.hid (.inr ⟨NE8.out _ 125 (by decide) h1, by rw [h.resolve_left h1]; rfl⟩)
              by_cases hc : t[q]'hP.1 = 125 ∨ t[q]'hP.1 = 93
              · have HC0 := Lib.hid hc
                have HKey := key hc
                clear hc key
                by_cases hl0 : 0 ≤ last
                · obtain ⟨j0, rfl⟩ := Int.eq_ofNat_of_zero_le hl0
                  have hj0 : j0 < t.size ∧ True := ⟨by omega, trivial⟩
                  have bl0 : decide (0 ≤ (j0 : Int)) = true := decide_eq_true (by omega)
                  by_cases h44 : t[j0]'hj0.1 = 44
                  · have b44 : (((t[j0]'hj0.1).toNat : Int) == 44) = true := by rw [h44]; rfl
                    have hcl : cl = true := HCL.out.2 ⟨HC0.out, j0, hj0.1, rfl, h44⟩
                    subst hcl
                    clear h44 hl0
                    rcases HKey.out with ⟨-, b125⟩ | ⟨b125, b93⟩
                    · go_wp2
                      go_meet
                      case rel => exact ⟨rfl, rfl⟩
                    · go_wp2
                      go_meet
                      case rel => exact ⟨rfl, rfl⟩
                  · have b44 : (((t[j0]'hj0.1).toNat : Int) == 44) = false := NE8.out _ 44 (by decide) h44
                    have hcl : cl = false := by
                      cases cl with
                      | false => rfl
                      | true =>
                        obtain ⟨_, j1, hj1, e1, e2⟩ := HCL.out.1 rfl
                        have : j0 = j1 := by omega
                        subst this
                        exact absurd e2 h44
                    subst hcl
                    clear h44 hl0
                    rcases HKey.out with ⟨-, b125⟩ | ⟨b125, b93⟩
                    · go_wp2
                      go_meet
                      case rel => exact ⟨rfl, rfl⟩
                    · go_wp2
                      go_meet
                      case rel => exact ⟨rfl, rfl⟩
                · have bl0 : decide (0 ≤ last) = false := decide_eq_false hl0
                  have bl1 : (0 ≤ last) = False := eq_false hl0
                  have hcl : cl = false := by
                    cases cl with
                    | false => rfl
                    | true =>
                      obtain ⟨_, j1, hj1, e1, e2⟩ := HCL.out.1 rfl
                      omega
                  subst hcl
                  clear hl0
                  rcases HKey.out with ⟨-, b125⟩ | ⟨b125, b93⟩
                  · go_wp2
                    go_meet
                    case rel => exact ⟨rfl, rfl⟩
                  · go_wp2
                    go_meet
                    case rel => exact ⟨rfl, rfl⟩
              · have b125 : (((t[q]'hP.1).toNat : Int) == 125) = false := NE8.out _ 125 (by decide) (fun e => hc (.inl e))
                have b93 : (((t[q]'hP.1).toNat : Int) == 93) = false := NE8.out _ 93 (by decide) (fun e => hc (.inr e))
                have hcl : cl = false := by
                  cases cl with
                  | false => rfl
                  | true => exact absurd (HCL.out.1 rfl).1 hc
                subst hcl
                clear hc key
                go_wp2
                go_meet
                case rel => exact ⟨rfl, rfl⟩
            case rest =>
              obtain ⟨rfl, rfl⟩ := hcut
              have HBL := Lib.hid fun W => spec_Blank.calls ((t[q]'hP.1).toNat : Int) (blk (t[q]'hP.1)) W (blank_f _)
              cases cl with
              | true =>
                obtain ⟨hcc, j0, hj0, hl0, h44⟩ := HCL.out.1 rfl
                subst hl0
                have HCC := Lib.hid hcc
                have H44 := Lib.hid h44
                have hbk : blk (t[q]'hP.1) = false := by rcases hcc with e | e <;> rw [e] <;> rfl
                rw [hbk] at HBL
                obtain ⟨c0, hc0⟩ : ∃ c0, out[j0]? = some c0 := ⟨_, List.getElem?_eq_getElem (by rw [HR2.out.len]; exact hj0)⟩
                have hcell : w2.cell? ⟨B, j0, none⟩ = some (.int .u8 (c0.toNat : Int)) := HR2.out.cell j0 c0 hc0
                have hfree := HR2.out.free j0 hj0
                have HR3 : Hid (OutR w (w2.setCell ⟨B, j0, none⟩ (.int .u8 32)) B t.size (out.set j0 32)) := Lib.hid (HR2.out.set j0 hj0 32)
                clear hcc h44 hbk hc0 HCL
                go_wp2_with (first | (go_at_call 9; refine (HBL.out _).mono ?_; rintro e w4 ⟨rfl, hd⟩; have HR4 := Lib.hid (HR3.out.drawn hd); clear hd) | fail)
                go_roundg j
                case rel => exact ⟨(q : Int), q + 1, out.set j0 32, by go_num, by go_num, HR4, by omega, Lib.hid fun F h => HU.out F (.cls out _ j0 q F hP.1 hj0 HCC.out rfl H44.out h)⟩
                case measure => omega
              | false =>
                have HNO : Hid (¬ ((t[q]'hP.1 = 125 ∨ t[q]'hP.1 = 93) ∧ ∃ (j : Nat) (hj : j < t.size), last = (j : Int) ∧ t[j] = 44)) := Lib.hid fun h => by have := HCL.out.2 h; cases this
                clear HCL
                obtain ⟨bk, hbk⟩ : ∃ bk, bk = blk (t[q]'hP.1) := ⟨_, rfl⟩
                rw [← hbk] at HBL
                have HBK := Lib.hid hbk
                clear hbk
                cases bk with
                | true =>
                  go_wp2_with (first | (go_at_call 9; refine (HBL.out _).mono ?_; rintro e w4 ⟨rfl, hd⟩; have HR4 := Lib.hid (HR2.out.drawn hd); clear hd) | fail)
                  go_roundg j
                  case rel => exact ⟨last, q + 1, out, by go_num, by go_num, HR4, by omega, Lib.hid fun F h => HU.out F (.oth out last q F hP.1 H47.out H34.out HNO.out (by rw [if_pos HBK.out.symm]; exact h))⟩
                  case measure => omega
                | false =>
                  go_wp2_with (first | (go_at_call 9; refine (HBL.out _).mono ?_; rintro e w4 ⟨rfl, hd⟩; have HR4 := Lib.hid (HR2.out.drawn hd); clear hd) | fail)
                  go_roundg j
                  case rel => exact ⟨(q : Int), q + 1, out, by go_num, by go_num, HR4, by omega, Lib.hid fun F h => HU.out F (.oth out last q F hP.1 H47.out H34.out HNO.out (by rw [if_neg (by rw [← HBK.out]; decide)]; exact h))⟩
                  case measure => omega
    · have hpe : p = t.size := by omega
      subst hpe
      have b1 : (t.size < t.size) = False := eq_false (Nat.lt_irrefl _)
      clear hlt
      have HS : Hid ((convert 26 9 (.slice (some ⟨B, 0, none⟩) t.size cap)).run Try.prog wr = .ok (.string ⟨out.toArray⟩) wr) := Lib.hid (HR.out.string cap)
      have hS := HS.out
      obtain ⟨k, r1, r2, r3, r4, r5, r6, hpl, hok⟩ := places_ok ⟨out.toArray⟩ (by rw [show (⟨out.toArray⟩ : ByteArray).size = out.length from by simp [ByteArray.size], HR.out.len]; exact hs)
      have HOK := Lib.hid hok
      have HP := Lib.hid fun W => places_any k ⟨out.toArray⟩ r1 r2 r3 r4 r5 r6 W (hpl k (Nat.le_refl _))
      clear hok hpl hS
      have hS2 : ∀ W, Hid (OutR w W B t.size out) → (convert 26 9 (.slice (some ⟨B, 0, none⟩) t.size cap)).run Try.prog W = .ok (.string ⟨out.toArray⟩) W := fun W h => h.out.string cap
      have hS := HS.out
      go_wp2_with (first | (go_at_call 10; refine (HP.out _).mono ?_; rintro e w2 ⟨v3, v4, rfl, hR3, hR4, hb2⟩; obtain ⟨A3, c3, rfl⟩ := Kd.R_slice hR3; obtain ⟨A4, c4, rfl⟩ := Kd.R_slice hR4; have HR2 : Hid (OutR w (w2.alloc (.cells #[.int .i64 r1, .int .i64 r2, .int .i64 r3, .slice A3 r4.length c3, .slice A4 r5.length c4] 36)) B t.size out) := Lib.hid ((HR.out.keep (HR.out.below.trans (hb2.mono HR.out.below.size)) hb2.size (hb2.block _ HR.out.lt)).keep ((HR.out.below.trans (hb2.mono HR.out.below.size)).alloc (Nat.le_trans HR.out.below.size hb2.size) _) (by simp) (Below.heap_alloc _ _ _ (Nat.lt_of_lt_of_le HR.out.lt hb2.size))); have hS3 := hS2 _ HR2; clear hb2 hR3 hR4) | fail)
      go_ret2
      refine ⟨⟨out.toArray⟩, r6, rfl, HR2.out.below, fun h => ?_⟩
      obtain ⟨T, hT, _⟩ := HOK.out h
      exact ⟨HU.out _ (.fin out last t.size (Nat.lt_irrefl _)), T, hT⟩
end Go.Proofs.Ytdokakhhpcckaaa
