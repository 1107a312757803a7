/- The walk of sjson's parsePath. Condition: the text takes at most 2^47 - 4096 bytes. -/
import Derived.Test.YtifcmhekpbfboaaSjPlain
namespace Go.Proofs.Ytifcmhekpbfboaa
open Go.RowKit

/-- The world inside the escape part: the result's block and the block of r, and the two rows. -/
structure SjW (w wc : World) (fc : Bool) (v6 v7 : Value) (es gs : List UInt8) : Prop where
  below : Below w.heap.size w wc
  hr0 : wc.heap[w.heap.size]? = some (.cells #[.string ⟨#[]⟩, .string ⟨#[]⟩, .string ⟨#[]⟩, .bool false, .bool false] 71 (0, 0))
  hr1 : wc.heap[w.heap.size + 1]? = some (.cells #[.string ⟨#[]⟩, .string ⟨#[]⟩, .string ⟨#[]⟩, .bool fc, .bool false] 71 (0, 0))
  e : Brow wc (w.heap.size + 2) v6 es
  g : Brow wc (w.heap.size + 2) v7 gs
  ne : v6.ownBlock ≠ v7.ownBlock

theorem SjW.grown {w wc w1 : World} {fc : Bool} {v6 v7 v : Value} {es gs : List UInt8} (h : SjW w wc fc v6 v7 es gs) (hg : wc.grownBy w1 v.ownBlock) (hv : ∃ k, v.ownBlock = some k ∧ w.heap.size + 2 ≤ k) :
    Below w.heap.size w w1 ∧ w1.heap[w.heap.size]? = wc.heap[w.heap.size]? ∧ w1.heap[w.heap.size + 1]? = wc.heap[w.heap.size + 1]? := by
  obtain ⟨k, hk, hk2⟩ := hv
  rw [hk] at hg
  have hl0 := (Array.getElem?_eq_some_iff.1 h.hr0).1
  have hl1 := (Array.getElem?_eq_some_iff.1 h.hr1).1
  exact ⟨h.below.grown hg h.below.size (by intro j hj; cases hj; omega), hg.block _ hl0 (by simp; omega), hg.block _ hl1 (by simp; omega)⟩

theorem SjW.appE {w wc w1 : World} {fc : Bool} {v6 v7 v1 : Value} {es gs : List UInt8} {c : UInt8} (h : SjW w wc fc v6 v7 es gs) (hb : Brow w1 (w.heap.size + 2) v1 (es ++ [c])) (hg : wc.grownBy w1 v6.ownBlock)
    (ho : v1.ownBlock = v6.ownBlock ∨ ∃ k, v1.ownBlock = some k ∧ wc.heap.size ≤ k) : SjW w w1 fc v1 v7 (es ++ [c]) gs := by
  obtain ⟨k, hk, hk2, _⟩ := h.e.block
  obtain ⟨q1, q2, q3⟩ := h.grown (v := v6) hg ⟨k, hk, hk2⟩
  obtain ⟨g1, g2⟩ := h.g.other hg h.ne.symm ho
  exact ⟨q1, q2.trans h.hr0, q3.trans h.hr1, hb, g1, g2.symm⟩

theorem SjW.appG {w wc w1 : World} {fc : Bool} {v6 v7 v1 : Value} {es gs : List UInt8} {c : UInt8} (h : SjW w wc fc v6 v7 es gs) (hb : Brow w1 (w.heap.size + 2) v1 (gs ++ [c])) (hg : wc.grownBy w1 v7.ownBlock)
    (ho : v1.ownBlock = v7.ownBlock ∨ ∃ k, v1.ownBlock = some k ∧ wc.heap.size ≤ k) : SjW w w1 fc v6 v1 es (gs ++ [c]) := by
  obtain ⟨k, hk, hk2, _⟩ := h.g.block
  obtain ⟨q1, q2, q3⟩ := h.grown (v := v7) hg ⟨k, hk, hk2⟩
  obtain ⟨g1, g2⟩ := h.e.other hg h.ne ho
  exact ⟨q1, q2.trans h.hr0, q3.trans h.hr1, g1, hb, g2⟩

/-- The two struct blocks in a world behind. -/
structure RF (w W : World) (c0 cs : Array Value) : Prop where
  below : Below w.heap.size w W
  hr0 : W.heap[w.heap.size]? = some (.cells c0 71 (0, 0))
  hr1 : W.heap[w.heap.size + 1]? = some (.cells cs 71 (0, 0))

theorem RF.set1 {w W : World} {c0 cs : Array Value} (h : RF w W c0 cs) (j : Nat) (v : Value) (cs' : Array Value) (e : cs.setIfInBounds j v = cs') : RF w (W.setCell ⟨w.heap.size + 1, j, none⟩ v) c0 cs' := by
  subst e
  refine ⟨h.below.setCell (by simp) _, ?_, heap_setCell_same W (w.heap.size + 1) j cs _ v h.hr1⟩
  rw [heap_setCell_other _ _ _ _ (by simp)]
  exact h.hr0
theorem RF.set0 {w W : World} {c0 cs : Array Value} (h : RF w W c0 cs) (j : Nat) (v : Value) (cs' : Array Value) (e : c0.setIfInBounds j v = cs') : RF w (W.setCell ⟨w.heap.size, j, none⟩ v) cs' cs := by
  subst e
  refine ⟨h.below.setCell (by simp) _, heap_setCell_same W w.heap.size j c0 _ v h.hr0, ?_⟩
  rw [heap_setCell_other _ _ _ _ (by simp)]
  exact h.hr1
theorem RF.cell1 {w W : World} {c0 cs : Array Value} (h : RF w W c0 cs) (j : Nat) (v : Value) (e : cs[j]? = some v) : W.cell? ⟨w.heap.size + 1, j, none⟩ = some v := by
  rw [cell_of_row _ _ _ _ _ _ h.hr1]; exact e
theorem RF.free1 {w W : World} {c0 cs : Array Value} (h : RF w W c0 cs) (j : Nat) : W.frozen? ⟨w.heap.size + 1, j, none⟩ = false := Go.frozen_of_row _ _ _ _ _ h.hr1
theorem RF.cell0 {w W : World} {c0 cs : Array Value} (h : RF w W c0 cs) (j : Nat) (v : Value) (e : c0[j]? = some v) : W.cell? ⟨w.heap.size, j, none⟩ = some v := by
  rw [cell_of_row _ _ _ _ _ _ h.hr0]; exact e
theorem RF.free0 {w W : World} {c0 cs : Array Value} (h : RF w W c0 cs) (j : Nat) : W.frozen? ⟨w.heap.size, j, none⟩ = false := Go.frozen_of_row _ _ _ _ _ h.hr0
theorem SjW.rf {w wc : World} {fc : Bool} {v6 v7 : Value} {es gs : List UInt8} (h : SjW w wc fc v6 v7 es gs) : RF w wc #[.string ⟨#[]⟩, .string ⟨#[]⟩, .string ⟨#[]⟩, .bool false, .bool false] #[.string ⟨#[]⟩, .string ⟨#[]⟩, .string ⟨#[]⟩, .bool fc, .bool false] := ⟨h.below, h.hr0, h.hr1⟩
theorem Brow.setCell {w W : World} {v : Value} {bs : List UInt8} (h : Brow W (w.heap.size + 2) v bs) (j : Nat) (u : Value) : Brow (W.setCell ⟨w.heap.size + 1, j, none⟩ u) (w.heap.size + 2) v bs := by
  refine h.kept (row := some (w.heap.size + 1)) ⟨rfl, rfl, rfl, by simp, fun k hk hne => heap_setCell_other _ _ _ _ (by simpa using hne)⟩ ?_
  obtain ⟨k, hk, hk2, _⟩ := h.block
  rw [hk]
  simp
  omega

theorem SjW.base {w wc : World} {fc : Bool} {v6 v7 : Value} {es gs : List UInt8} (h : SjW w wc fc v6 v7 es gs) : w.heap.size + 2 ≤ wc.heap.size := by
  obtain ⟨k, _, h1, h2⟩ := h.e.block
  omega

theorem sj_info : (Try.prog.info? 5).map (fun i => (i.zero, i.size, i.bytes)) = some (some (.int .u8 0), 1, 1) := by kernel_rfl

theorem sj_results {P : Program} {fn : Func} {p u : Tmp} {ty : TypeId} (h : fn.results = #[.cell p ty, .tmp u]) (tmps : Array Value) (w : World) (g : Nat) (t : TypeId) (cs : Array Value) (fr : Nat × Nat) (d : TypeDesc)
    (hp : tmps.getD p undef = .pointer (some ⟨g, 0, none⟩)) (hg : w.heap[g]? = some (.cells cs t fr))
    (hu : P.underlying ty = some d) (hd : (match d with | .struct _ | .array _ _ => true | _ => false) = true) (hi : (P.info? ty).map (·.size) = some cs.size) :
    (results fn tmps).run P w = .ok (.tuple #[.agg cs, tmps.getD u undef]) w := by
  have hp' : tmps[p]?.getD undef = .pointer (some ⟨g, 0, none⟩) := by simpa using hp
  simp [results, h, hp', asAddr, run_loadVar_row w g t ty cs fr d hg hu hd hi]

theorem Brow.mono {w : World} {base b' : Nat} {v : Value} {bs : List UInt8} (h : Brow w base v bs) (hb : b' ≤ base) : Brow w b' v bs := by
  obtain ⟨g, cap, q1, q2, q3⟩ := h
  exact ⟨g, cap, q1, Nat.le_trans hb q2, q3⟩

theorem conv_brow (W : World) (x : ByteArray) (hx : x.size ≤ 140737488351232) : ∃ v1 w1, (convert 9 55 (.string x)).run Try.prog W = .ok v1 w1 ∧ Brow w1 W.heap.size v1 x.data.toList ∧ W.grownBy w1 none ∧ v1.ownBlock = some W.heap.size :=
  ⟨_, _, Lib.run_convert_string_bytes W 9 55 5 x (u := .string) Try.underlying9 Try.underlying55 Try.underlying5, Brow.conv W 5 x (by simp only [maxLen]; omega), grown_bytes W 5 x, rfl⟩

theorem SjW.start {w w6 w7 : World} {fc : Bool} {v6 v7 : Value} {es gs : List UInt8}
    (r6 : Brow w6 ((w.alloc (.cells #[.string ⟨#[]⟩, .string ⟨#[]⟩, .string ⟨#[]⟩, .bool false, .bool false] 71)).alloc (.cells #[.string ⟨#[]⟩, .string ⟨#[]⟩, .string ⟨#[]⟩, .bool fc, .bool false] 71)).heap.size v6 es)
    (g6 : ((w.alloc (.cells #[.string ⟨#[]⟩, .string ⟨#[]⟩, .string ⟨#[]⟩, .bool false, .bool false] 71)).alloc (.cells #[.string ⟨#[]⟩, .string ⟨#[]⟩, .string ⟨#[]⟩, .bool fc, .bool false] 71)).grownBy w6 none)
    (k6 : v6.ownBlock = some ((w.alloc (.cells #[.string ⟨#[]⟩, .string ⟨#[]⟩, .string ⟨#[]⟩, .bool false, .bool false] 71)).alloc (.cells #[.string ⟨#[]⟩, .string ⟨#[]⟩, .string ⟨#[]⟩, .bool fc, .bool false] 71)).heap.size)
    (r7 : Brow w7 w6.heap.size v7 gs) (g7 : w6.grownBy w7 none) (k7 : v7.ownBlock = some w6.heap.size) : SjW w w7 fc v6 v7 es gs := by
  have hsz : ((w.alloc (.cells #[.string ⟨#[]⟩, .string ⟨#[]⟩, .string ⟨#[]⟩, .bool false, .bool false] 71)).alloc (.cells #[.string ⟨#[]⟩, .string ⟨#[]⟩, .string ⟨#[]⟩, .bool fc, .bool false] 71)).heap.size = w.heap.size + 2 := by simp
  have hs6 := g6.size
  rw [hsz] at r6 k6 hs6
  have b0 := heap_alloc_new w (.cells #[.string ⟨#[]⟩, .string ⟨#[]⟩, .string ⟨#[]⟩, .bool false, .bool false] 71)
  have b1 := heap_alloc_new (w.alloc (.cells #[.string ⟨#[]⟩, .string ⟨#[]⟩, .string ⟨#[]⟩, .bool false, .bool false] 71)) (.cells #[.string ⟨#[]⟩, .string ⟨#[]⟩, .string ⟨#[]⟩, .bool fc, .bool false] 71)
  have b0' := Below.heap_alloc (w.alloc (.cells #[.string ⟨#[]⟩, .string ⟨#[]⟩, .string ⟨#[]⟩, .bool false, .bool false] 71)) (.cells #[.string ⟨#[]⟩, .string ⟨#[]⟩, .string ⟨#[]⟩, .bool fc, .bool false] 71) w.heap.size (by simp)
  rw [b0] at b0'
  have hsz1 : (w.alloc (.cells #[.string ⟨#[]⟩, .string ⟨#[]⟩, .string ⟨#[]⟩, .bool false, .bool false] 71)).heap.size = w.heap.size + 1 := by simp
  rw [hsz1] at b1
  have hsz0 : w.heap.size ≤ (w.alloc (.cells #[.string ⟨#[]⟩, .string ⟨#[]⟩, .string ⟨#[]⟩, .bool false, .bool false] 71)).heap.size := by rw [hsz1]; omega
  refine ⟨?_, ?_, ?_, ?_, r7.mono hs6, ?_⟩
  · exact (((((Below.refl _ _).alloc (Nat.le_refl _) _).alloc hsz0 _).grown g6 (by rw [hsz]; exact Nat.le_add_right _ _) (by intro k hk; cases hk)).grown g7 (by omega) (by intro k hk; cases hk))
  · rw [g7.block _ (by omega) (by simp), g6.block _ (by rw [hsz]; omega) (by simp)]; exact b0'
  · rw [g7.block _ (by omega) (by simp), g6.block _ (by rw [hsz]; omega) (by simp)]; exact b1
  · exact r6.kept g7 (by rw [k6]; simp)
  · obtain ⟨k, hk, _, hlt⟩ := r6.block
    rw [k6] at hk
    have hk' := Option.some.inj hk
    rw [k6, k7]
    intro e
    have e' := Option.some.inj e
    omega

set_option maxHeartbeats 40000000 in
set_option maxRecDepth 100000 in
theorem parsePath_any (s t : ByteArray) (fc : Bool) (o : Option PRes) (w : World) (hs : s.size ≤ 140737488351232)
    (hfc : fc = if h : 0 < s.size then (if s[0] = 58 then true else false) else false) (ht : t = if fc then s.extract 1 s.size else s) (ho : o = ppS [] t.data.toList) :
    Calls Try.prog 50 #[.string s] w (PPost o fc w) := by
  have HT := Lib.hid ht
  have HF := Lib.hid hfc
  have HO := Lib.hid ho.symm
  have hts : t.size ≤ 140737488351232 := by rw [ht]; split <;> (try rw [ByteArray.size_extract]) <;> omega
  clear ht hfc ho
  go_enter Try.func50, Try.ntmps50
  by_cases h0 : 0 < s.size
  · have ey : decide (0 < s.size) = true := decide_eq_true h0
    obtain ⟨z0, z1⟩ : (0 : Int) ≤ (s[0].toNat : Int) ∧ (s[0].toNat : Int) ≤ 255 := ⟨by omega, by have := UInt8.toNat_lt s[0]; omega⟩
    go_upto_if 15 with (fail)
    go_cut [0] (fun v0 wc => v0 = .string t ∧ wc = ((w.alloc (.cells #[.string ⟨#[]⟩, .string ⟨#[]⟩, .string ⟨#[]⟩, .bool false, .bool false] 71)).alloc (.cells #[.string ⟨#[]⟩, .string ⟨#[]⟩, .string ⟨#[]⟩, .bool fc, .bool false] 71)))
    case first =>
      by_cases hc : s[0] = 58
      · have e58 : ((s[0].toNat : Int) == 58) = true := by simp [hc]
        have hfc : fc = true := by rw [HF.out, dif_pos h0, if_pos hc]
        subst hfc
        have HT2 : Hid (t = s.extract 1 s.size) := Lib.hid (HT.out.trans (if_pos rfl))
        clear hc
        go_wp2
        go_meet
        case rel => exact ⟨by rw [HT2.out], rfl⟩
      · have e58 : ((s[0].toNat : Int) == 58) = false := u8b_not (n := 58) (by decide) hc
        have hfc : fc = false := by rw [HF.out, dif_pos h0, if_neg hc]
        subst hfc
        have HT2 : Hid (t = s) := Lib.hid (HT.out.trans (if_neg (by decide)))
        clear hc
        go_wp2
        go_meet
        case rel => exact ⟨by rw [HT2.out], rfl⟩
    case rest =>
      obtain ⟨rfl, rfl⟩ := hcut
      clear HT HF z0 z1
      go_wp2
      go_loopg [5] (t.size + 1) (fun g v5 wc => ∃ i : Nat, v5 = .int .i64 i ∧ i ≤ t.size ∧ t.size < i + g ∧ Hid (ppS (t.data.toList.take i) (t.data.toList.drop i) = o) ∧
        wc = ((w.alloc (.cells #[.string ⟨#[]⟩, .string ⟨#[]⟩, .string ⟨#[]⟩, .bool false, .bool false] 71)).alloc (.cells #[.string ⟨#[]⟩, .string ⟨#[]⟩, .string ⟨#[]⟩, .bool fc, .bool false] 71)))
      case atStart => exact ⟨0, rfl, Nat.zero_le _, by omega, by simpa using HO, rfl⟩
      case round =>
        clear HO
        obtain ⟨i, rfl, hi, hg, HO, rfl⟩ := hrel
        have hf := HO.out
        clear HO
        cases gk with
        | zero => omega
        | succ j =>
        by_cases hlt : i < t.size
        · rw [ba_drop hlt] at hf
          have HS := Lib.hid (isSimple_any t[i])
          by_cases h1 : t[i] = 46
          · have b1 : ((t[i].toNat : Int) == 46) = true := by rw [h1]; rfl
            have HOO : Hid (some (t.data.toList.take i, t.data.toList.take i, t.data.toList.drop (i + 1), true) = o) := Lib.hid (by rw [← hf]; unfold ppS; rw [if_pos h1])
            clear hf h1
            go_wp2
            (try simp only [Exit.inBlock, Exit.then])
            refine bodyPost_ret (sj_results rfl _ _ w.heap.size 71 _ (0, 0) _ rfl ((Below.heap_alloc _ _ _ (by simp)).trans (heap_alloc_new w _)) Try.underlying71 rfl (by kernel_rfl)) rfl ?_
            refine ⟨?_, ((Below.refl _ _).alloc (Nat.le_refl _) _).alloc (by simp) _⟩
            rw [← HOO.out]
            simp only [resV, ba_head, ba_tail]
            rfl
          · have b1 : ((t[i].toNat : Int) == 46) = false := u8b_not (n := 46) (by decide) h1
            by_cases h2 : simpleC t[i] = true
            · rw [h2] at HS
              by_cases h3 : t[i] = 92
              · have b3 : ((t[i].toNat : Int) == 92) = true := by rw [h3]; rfl
                have HF : Hid ((match t.data.toList.drop (i + 1) with
                  | [] => some (t.data.toList.take i, t.data.toList.take i ++ [92], [], false)
                  | d :: r' => ppE (t.data.toList.take i ++ [d]) (t.data.toList.take i ++ [92] ++ [d]) r') = o) := Lib.hid (by
                  rw [← hf]
                  conv => rhs; unfold ppS; rw [if_neg h1, if_pos h2, if_pos h3]
                  rfl)
                have HC : Hid (t[i] = 92) := Lib.hid h3
                clear hf h1 h2 h3
                obtain ⟨v6, w6, c6, r6, g6, k6⟩ := conv_brow ((w.alloc (.cells #[.string ⟨#[]⟩, .string ⟨#[]⟩, .string ⟨#[]⟩, .bool false, .bool false] 71)).alloc (.cells #[.string ⟨#[]⟩, .string ⟨#[]⟩, .string ⟨#[]⟩, .bool fc, .bool false] 71)) (t.extract 0 i) (by rw [ByteArray.size_extract]; omega)
                obtain ⟨v7, w7, c7, r7, g7, k7⟩ := conv_brow w6 (t.extract 0 (i + 1)) (by rw [ByteArray.size_extract]; omega)
                have HW := Lib.hid (SjW.start r6 g6 k6 r7 g7 k7)
                rw [ba_head, ba_head, ba_take hlt] at HW
                clear r6 g6 k6 r7 g7 k7
                go_upto_if 68 with (first | (go_at_call 56; refine (HS.out _).mono ?_; rintro e w' ⟨rfl, rfl⟩) | fail)
                go_cut [5, 6, 7] (fun v5 v6 v7 wc => ∃ es gs : List UInt8, Hid (SjW w wc fc v6 v7 es gs) ∧ Hid (some (es, gs, [], false) = o))
                case first =>
                  have HW2 : Hid (SjW w w7 fc v6 v7 (t.data.toList.take i) (t.data.toList.take i ++ [92])) := Lib.hid (by have h := HW.out; rw [HC.out] at h; exact h)
                  have hli : (t.data.toList.take i).length ≤ i := by rw [List.length_take]; omega
                  obtain ⟨es, hes⟩ : ∃ es, es = t.data.toList.take i := ⟨_, rfl⟩
                  rw [← hes] at HW2 HF hli
                  clear HW HC hes
                  by_cases hlt1 : i + 1 < t.size
                  · have HF1 : Hid (ppE (es ++ [t[i + 1]]) (es ++ [92] ++ [t[i + 1]]) (t.data.toList.drop (i + 2)) = o) := Lib.hid (by rw [← HF.out, ba_drop hlt1])
                    clear HF
                    go_wp2_with (first | (at_builtin; refine wpList_append_brow (w.heap.size + 2) rfl (.tmp 69) _ 55 5 rfl Try.underlying55 sj_info _ _ t[i + 1] rfl rfl HW2.out.e (Below.refl _ _) HW2.out.base (by simp; omega) ?_; intro vA wA bA _ gA oA; have KA := Lib.hid (HW2.out.appE bA gA oA)) | (at_builtin; refine wpList_append_brow (w.heap.size + 2) rfl (.tmp 75) _ 55 5 rfl Try.underlying55 sj_info _ _ t[i + 1] rfl rfl KA.out.g (Below.refl _ _) KA.out.base (by simp; omega) ?_; intro vB wB bB _ gB oB; have KB := Lib.hid (KA.out.appG bB gB oB)) | fail)
                    go_loopg [5, 6, 7] (t.size + 2) (fun g v5 v6 v7 wc => ∃ (i : Nat) (es gs : List UInt8), v5 = .int .i64 i ∧ i ≤ t.size + 1 ∧ t.size + 1 < i + g ∧ es.length ≤ i ∧ gs.length ≤ i ∧ Hid (SjW w wc fc v6 v7 es gs) ∧ Hid (ppE es gs (t.data.toList.drop i) = o))
                    case atStart => exact ⟨i + 2, _, _, by go_num, by omega, by omega, by simp; omega, by simp; omega, KB, HF1⟩
                    case round =>
                      clear HF1 KA KB HW2
                      obtain ⟨i, es, gs, rfl, hi, hg, he, hgl, HW, HO⟩ := hrel
                      have hf := HO.out
                      clear HO
                      cases gk with
                      | zero => omega
                      | succ j =>
                      by_cases hlt : i < t.size
                      · rw [ba_drop hlt] at hf
                        have HS := Lib.hid (isSimple_any t[i])
                        by_cases h1 : t[i] = 92
                        · have b1 : ((t[i].toNat : Int) == 92) = true := by rw [h1]; rfl
                          have HF : Hid ((match t.data.toList.drop (i + 1) with
                            | [] => some (es, gs ++ [92], [], false)
                            | d :: r' => ppE (es ++ [d]) (gs ++ [92] ++ [d]) r') = o) := Lib.hid (by
                            rw [← hf]
                            conv => rhs; unfold ppE; rw [if_pos h1]
                            rfl)
                          clear hf h1 HS
                          by_cases hlt1 : i + 1 < t.size
                          · have HF1 : Hid (ppE (es ++ [t[i + 1]]) (gs ++ [92] ++ [t[i + 1]]) (t.data.toList.drop (i + 2)) = o) := Lib.hid (by rw [← HF.out, ba_drop hlt1])
                            clear HF
                            go_wp2_with (first | (at_builtin; refine wpList_append_brow (w.heap.size + 2) rfl (.tmp 93) _ 55 5 rfl Try.underlying55 sj_info _ _ 92 rfl rfl HW.out.g (Below.refl _ _) HW.out.base (by simp; omega) ?_; intro vC wC bC _ gC oC; have KC := Lib.hid (HW.out.appG bC gC oC)) | (at_builtin; refine wpList_append_brow (w.heap.size + 2) rfl (.tmp 102) _ 55 5 rfl Try.underlying55 sj_info _ _ t[i + 1] rfl rfl KC.out.e (Below.refl _ _) KC.out.base (by simp; omega) ?_; intro vD wD bD _ gD oD; have KD := Lib.hid (KC.out.appE bD gD oD)) | (at_builtin; refine wpList_append_brow (w.heap.size + 2) rfl (.tmp 108) _ 55 5 rfl Try.underlying55 sj_info _ _ t[i + 1] rfl rfl KD.out.g (Below.refl _ _) KD.out.base (by simp; omega) ?_; intro vE wE bE _ gE oE; have KE := Lib.hid (KD.out.appG bE gE oE)) | fail)
                            go_roundg j
                            case rel => exact ⟨i + 2, _, _, by go_num, by omega, by omega, by simp; omega, by simp; omega, KE, HF1⟩
                            case measure => omega
                          · have HF1 : Hid (ppE es (gs ++ [92]) (t.data.toList.drop (i + 2)) = o) := Lib.hid (by rw [← HF.out, ba_end (i := i + 1) (by omega), ba_end (i := i + 2) (by omega)]; rfl)
                            clear HF
                            go_wp2_with (first | (at_builtin; refine wpList_append_brow (w.heap.size + 2) rfl (.tmp 93) _ 55 5 rfl Try.underlying55 sj_info _ _ 92 rfl rfl HW.out.g (Below.refl _ _) HW.out.base (by simp; omega) ?_; intro vC wC bC _ gC oC; have KC := Lib.hid (HW.out.appG bC gC oC)) | fail)
                            go_roundg j
                            case rel => exact ⟨i + 2, _, _, by go_num, by omega, by omega, by omega, by simp; omega, KC, HF1⟩
                            case measure => omega
                        · have b1 : ((t[i].toNat : Int) == 92) = false := u8b_not (n := 92) (by decide) h1
                          by_cases h2 : t[i] = 46
                          · have b2 : ((t[i].toNat : Int) == 46) = true := by rw [h2]; rfl
                            have HOO : Hid (some (es, gs, t.data.toList.drop (i + 1), true) = o) := Lib.hid (by
                              rw [← hf]
                              conv => rhs; unfold ppE; rw [if_neg h1, if_pos h2])
                            clear hf h1 h2 HS
                            have HR0 := Lib.hid HW.out.rf
                            have x2 : (convert 55 9 _).run Try.prog _ = .ok (.string (BA es)) _ := HW.out.e.string (P := Try.prog) 55 9 5 Try.underlying55 Try.underlying5 Try.underlying9
                            have y1 := HR0.out.cell1 0 _ rfl
                            have y2 := HR0.out.free1 0
                            have HR1 := Lib.hid (HR0.out.set1 0 (.string (BA es)) #[.string (BA es), .string ⟨#[]⟩, .string ⟨#[]⟩, .bool fc, .bool false] rfl)
                            have x5 : (convert 55 9 _).run Try.prog _ = .ok (.string (BA gs)) _ := (HW.out.g.setCell 0 (.string (BA es))).string (P := Try.prog) 55 9 5 Try.underlying55 Try.underlying5 Try.underlying9
                            have y3 := HR1.out.cell1 1 _ rfl
                            have y4 := HR1.out.free1 1
                            have HR2 := Lib.hid (HR1.out.set1 1 (.string (BA gs)) #[.string (BA es), .string (BA gs), .string ⟨#[]⟩, .bool fc, .bool false] rfl)
                            have y5 := HR2.out.cell1 2 _ rfl
                            have y6 := HR2.out.free1 2
                            have HR3 := Lib.hid (HR2.out.set1 2 (.string (t.extract (i + 1) t.size)) #[.string (BA es), .string (BA gs), .string (t.extract (i + 1) t.size), .bool fc, .bool false] rfl)
                            have y7 := HR3.out.cell1 4 _ rfl
                            have y8 := HR3.out.free1 4
                            have HR4 := Lib.hid (HR3.out.set1 4 (.bool true) #[.string (BA es), .string (BA gs), .string (t.extract (i + 1) t.size), .bool fc, .bool true] rfl)
                            have y9 := HR4.out.cell1 0 _ rfl
                            have y10 := HR4.out.cell1 1 _ rfl
                            have y11 := HR4.out.cell1 2 _ rfl
                            have y12 := HR4.out.cell1 3 _ rfl
                            have y13 := HR4.out.cell1 4 _ rfl
                            have y14 := HR4.out.cell0 0 _ rfl
                            have y15 := HR4.out.free0 0
                            have HR5 := Lib.hid (HR4.out.set0 0 (.string (BA es)) #[.string (BA es), .string ⟨#[]⟩, .string ⟨#[]⟩, .bool false, .bool false] rfl)
                            have y16 := HR5.out.cell0 1 _ rfl
                            have y17 := HR5.out.free0 1
                            have HR6 := Lib.hid (HR5.out.set0 1 (.string (BA gs)) #[.string (BA es), .string (BA gs), .string ⟨#[]⟩, .bool false, .bool false] rfl)
                            have y18 := HR6.out.cell0 2 _ rfl
                            have y19 := HR6.out.free0 2
                            have HR7 := Lib.hid (HR6.out.set0 2 (.string (t.extract (i + 1) t.size)) #[.string (BA es), .string (BA gs), .string (t.extract (i + 1) t.size), .bool false, .bool false] rfl)
                            have y20 := HR7.out.cell0 3 _ rfl
                            have y21 := HR7.out.free0 3
                            have HR8 := Lib.hid (HR7.out.set0 3 (.bool fc) #[.string (BA es), .string (BA gs), .string (t.extract (i + 1) t.size), .bool fc, .bool false] rfl)
                            have y22 := HR8.out.cell0 4 _ rfl
                            have y23 := HR8.out.free0 4
                            have HR9 := Lib.hid (HR8.out.set0 4 (.bool true) #[.string (BA es), .string (BA gs), .string (t.extract (i + 1) t.size), .bool fc, .bool true] rfl)
                            have x8 := Lib.hid HR9.out.hr0
                            have x9 := Lib.hid HR9.out.below
                            clear HW HR0 HR1 HR2 HR3 HR4 HR5 HR6 HR7 HR8 HR9
                            go_wp2
                            (try simp only [Exit.inBlock, Exit.then])
                            refine bodyPost_ret (sj_results rfl _ _ w.heap.size 71 _ (0, 0) _ rfl x8.out Try.underlying71 rfl (by kernel_rfl)) rfl ?_
                            refine ⟨?_, x9.out⟩
                            rw [← HOO.out]
                            simp only [resV, ba_tail]
                            rfl
                          · have b2 : ((t[i].toNat : Int) == 46) = false := u8b_not (n := 46) (by decide) h2
                            by_cases h3 : simpleC t[i] = true
                            · rw [h3] at HS
                              have HF1 : Hid (ppE (es ++ [t[i]]) (gs ++ [t[i]]) (t.data.toList.drop (i + 1)) = o) := Lib.hid (by
                                rw [← hf]
                                conv => rhs; unfold ppE; rw [if_neg h1, if_neg h2, if_pos h3])
                              clear hf h1 h2 h3
                              go_wp2_with (first | (at_builtin; refine wpList_append_brow (w.heap.size + 2) rfl (.tmp 137) _ 55 5 rfl Try.underlying55 sj_info _ _ t[i] rfl rfl HW.out.e (Below.refl _ _) HW.out.base (by simp; omega) ?_; intro vF wF bF _ gF oF; have KF := Lib.hid (HW.out.appE bF gF oF)) | (at_builtin; refine wpList_append_brow (w.heap.size + 2) rfl (.tmp 143) _ 55 5 rfl Try.underlying55 sj_info _ _ t[i] rfl rfl KF.out.g (Below.refl _ _) KF.out.base (by simp; omega) ?_; intro vG wG bG _ gG oG; have KG := Lib.hid (KF.out.appG bG gG oG)) | (go_at_call 56; refine (HS.out _).mono ?_; rintro e w' ⟨rfl, rfl⟩) | fail)
                              go_roundg j
                              case rel => exact ⟨i + 1, _, _, by go_num, by omega, by omega, by simp; omega, by simp; omega, KG, HF1⟩
                              case measure => omega
                            · have h3' : simpleC t[i] = false := by simpa using h3
                              rw [h3'] at HS
                              have HOO : Hid (none = o) := Lib.hid (by
                                rw [← hf]
                                conv => rhs; unfold ppE; rw [if_neg h1, if_neg h2, if_neg h3])
                              clear hf h1 h2 h3 h3'
                              have HR0 := Lib.hid HW.out.rf
                              have y1 := HR0.out.cell1 0 _ rfl
                              have y2 := HR0.out.cell1 1 _ rfl
                              have y3 := HR0.out.cell1 2 _ rfl
                              have y4 := HR0.out.cell1 3 _ rfl
                              have y5 := HR0.out.cell1 4 _ rfl
                              have y6 := HR0.out.cell0 0 _ rfl
                              have y7 := HR0.out.free0 0
                              have HR1 := Lib.hid (HR0.out.set0 0 (.string ⟨#[]⟩) #[.string ⟨#[]⟩, .string ⟨#[]⟩, .string ⟨#[]⟩, .bool false, .bool false] rfl)
                              have y8 := HR1.out.cell0 1 _ rfl
                              have y9 := HR1.out.free0 1
                              have HR2 := Lib.hid (HR1.out.set0 1 (.string ⟨#[]⟩) #[.string ⟨#[]⟩, .string ⟨#[]⟩, .string ⟨#[]⟩, .bool false, .bool false] rfl)
                              have y10 := HR2.out.cell0 2 _ rfl
                              have y11 := HR2.out.free0 2
                              have HR3 := Lib.hid (HR2.out.set0 2 (.string ⟨#[]⟩) #[.string ⟨#[]⟩, .string ⟨#[]⟩, .string ⟨#[]⟩, .bool false, .bool false] rfl)
                              have y12 := HR3.out.cell0 3 _ rfl
                              have y13 := HR3.out.free0 3
                              have HR4 := Lib.hid (HR3.out.set0 3 (.bool fc) #[.string ⟨#[]⟩, .string ⟨#[]⟩, .string ⟨#[]⟩, .bool fc, .bool false] rfl)
                              have y14 := HR4.out.cell0 4 _ rfl
                              have y15 := HR4.out.free0 4
                              have HR5 := Lib.hid (HR4.out.set0 4 (.bool false) #[.string ⟨#[]⟩, .string ⟨#[]⟩, .string ⟨#[]⟩, .bool fc, .bool false] rfl)
                              have x8 := Lib.hid HR5.out.hr0
                              have x9 := Lib.hid HR5.out.below
                              clear HW HR0 HR1 HR2 HR3 HR4 HR5
                              go_wp2_with (first | (go_at_call 56; refine (HS.out _).mono ?_; rintro e w' ⟨rfl, rfl⟩) | fail)
                              (try simp only [Exit.inBlock, Exit.then])
                              refine bodyPost_ret (sj_results rfl _ _ w.heap.size 71 _ (0, 0) _ rfl x8.out Try.underlying71 rfl (by kernel_rfl)) rfl ?_
                              refine ⟨?_, x9.out⟩
                              rw [← HOO.out]
                              rfl
                      · rw [ba_end (by omega)] at hf
                        have HOO : Hid (some (es, gs, [], false) = o) := Lib.hid hf
                        clear hf
                        go_wp2
                        go_meet
                        case rel => exact ⟨es, gs, HW, HOO⟩
                  · have HOO : Hid (some (es, es ++ [92], [], false) = o) := Lib.hid (by rw [← HF.out, ba_end (i := i + 1) (by omega)])
                    clear HF
                    go_wp2
                    go_meet
                    case rel => exact ⟨_, _, HW2, HOO⟩
                case rest =>
                  clear HW HF HC c6 c7
                  obtain ⟨es, gs, HW, HOO⟩ := hcut
                  have HR0 := Lib.hid HW.out.rf
                  have x2 : (convert 55 9 u6).run Try.prog wc = .ok (.string (BA es)) wc := HW.out.e.string (P := Try.prog) 55 9 5 Try.underlying55 Try.underlying5 Try.underlying9
                  have y1 := HR0.out.cell1 0 _ rfl
                  have y2 := HR0.out.free1 0
                  have HR1 := Lib.hid (HR0.out.set1 0 (.string (BA es)) #[.string (BA es), .string ⟨#[]⟩, .string ⟨#[]⟩, .bool fc, .bool false] rfl)
                  have x5 : (convert 55 9 u7).run Try.prog (wc.setCell ⟨w.heap.size + 1, 0, none⟩ (.string (BA es))) = .ok (.string (BA gs)) (wc.setCell ⟨w.heap.size + 1, 0, none⟩ (.string (BA es))) := (HW.out.g.setCell 0 (.string (BA es))).string (P := Try.prog) 55 9 5 Try.underlying55 Try.underlying5 Try.underlying9
                  have y3 := HR1.out.cell1 1 _ rfl
                  have y4 := HR1.out.free1 1
                  have HR2 := Lib.hid (HR1.out.set1 1 (.string (BA gs)) #[.string (BA es), .string (BA gs), .string ⟨#[]⟩, .bool fc, .bool false] rfl)
                  have y5 := HR2.out.cell1 0 _ rfl
                  have y6 := HR2.out.cell1 1 _ rfl
                  have y7 := HR2.out.cell1 2 _ rfl
                  have y8 := HR2.out.cell1 3 _ rfl
                  have y9 := HR2.out.cell1 4 _ rfl
                  have y10 := HR2.out.cell0 0 _ rfl
                  have y11 := HR2.out.free0 0
                  have HR3 := Lib.hid (HR2.out.set0 0 (.string (BA es)) #[.string (BA es), .string ⟨#[]⟩, .string ⟨#[]⟩, .bool false, .bool false] rfl)
                  have y12 := HR3.out.cell0 1 _ rfl
                  have y13 := HR3.out.free0 1
                  have HR4 := Lib.hid (HR3.out.set0 1 (.string (BA gs)) #[.string (BA es), .string (BA gs), .string ⟨#[]⟩, .bool false, .bool false] rfl)
                  have y14 := HR4.out.cell0 2 _ rfl
                  have y15 := HR4.out.free0 2
                  have HR5 := Lib.hid (HR4.out.set0 2 (.string ⟨#[]⟩) #[.string (BA es), .string (BA gs), .string ⟨#[]⟩, .bool false, .bool false] rfl)
                  have y16 := HR5.out.cell0 3 _ rfl
                  have y17 := HR5.out.free0 3
                  have HR6 := Lib.hid (HR5.out.set0 3 (.bool fc) #[.string (BA es), .string (BA gs), .string ⟨#[]⟩, .bool fc, .bool false] rfl)
                  have y18 := HR6.out.cell0 4 _ rfl
                  have y19 := HR6.out.free0 4
                  have HR7 := Lib.hid (HR6.out.set0 4 (.bool false) #[.string (BA es), .string (BA gs), .string ⟨#[]⟩, .bool fc, .bool false] rfl)
                  have x8 := Lib.hid HR7.out.hr0
                  have x9 := Lib.hid HR7.out.below
                  clear HW HR0 HR1 HR2 HR3 HR4 HR5 HR6 HR7
                  go_wp2
                  (try simp only [Exit.inBlock, Exit.then])
                  refine bodyPost_ret (sj_results rfl _ _ w.heap.size 71 _ (0, 0) _ rfl x8.out Try.underlying71 rfl (by kernel_rfl)) rfl ?_
                  refine ⟨?_, x9.out⟩
                  rw [← HOO.out]
                  rfl
              · have b3 : ((t[i].toNat : Int) == 92) = false := u8b_not (n := 92) (by decide) h3
                have HF : Hid (ppS (t.data.toList.take (i + 1)) (t.data.toList.drop (i + 1)) = o) := Lib.hid (by rw [← hf, ba_take hlt]; conv => rhs; unfold ppS; rw [if_neg h1, if_pos h2, if_neg h3])
                clear hf h1 h2 h3
                go_wp2_with (first | (go_at_call 56; refine (HS.out _).mono ?_; rintro e w' ⟨rfl, rfl⟩) | fail)
                go_roundg j
                case rel => exact ⟨i + 1, by go_num, hlt, by omega, HF, rfl⟩
                case measure => omega
            · have h2' : simpleC t[i] = false := by simpa using h2
              rw [h2'] at HS
              have HOO : Hid (none = o) := Lib.hid (by rw [← hf]; conv => rhs; unfold ppS; rw [if_neg h1, if_neg h2])
              clear hf h1 h2 h2'
              go_wp2_with (first | (go_at_call 56; refine (HS.out _).mono ?_; rintro e w' ⟨rfl, rfl⟩) | fail)
              (try simp only [Exit.inBlock, Exit.then])
              refine bodyPost_ret (sj_results rfl _ _ w.heap.size 71 _ (0, 0) _ rfl ((Below.heap_alloc _ _ _ (by simp)).trans (heap_alloc_new w _)) Try.underlying71 rfl (by kernel_rfl)) rfl ?_
              refine ⟨?_, ((Below.refl _ _).alloc (Nat.le_refl _) _).alloc (by simp) _⟩
              rw [← HOO.out]
              rfl
        · have hie : i = t.size := by omega
          subst hie
          have HOO : Hid (some (t.data.toList, t.data.toList, [], false) = o) := Lib.hid (by
            have hl : t.data.toList.length = t.size := by rw [Array.length_toList]; rfl
            rw [← hf, ba_end (Nat.le_refl _), ← hl, List.take_length]
            rfl)
          clear hf
          go_wp2
          (try simp only [Exit.inBlock, Exit.then])
          refine bodyPost_ret (sj_results rfl _ _ w.heap.size 71 _ (0, 0) _ rfl ((Below.heap_alloc _ _ _ (by simp)).trans (heap_alloc_new w _)) Try.underlying71 rfl (by kernel_rfl)) rfl ?_
          refine ⟨?_, ((Below.refl _ _).alloc (Nat.le_refl _) _).alloc (by simp) _⟩
          rw [← HOO.out]
          rfl
  · have ey : decide (0 < s.size) = false := decide_eq_false h0
    have hfc : fc = false := by rw [HF.out, dif_neg h0]
    subst hfc
    have HT2 : t = s := HT.out.trans (if_neg (by decide))
    subst HT2
    clear HT HF
    have hz : t.size = 0 := by omega
    have HOO : Hid (some (t.data.toList, t.data.toList, [], false) = o) := Lib.hid (by
      have hl : t.data.toList.length = t.size := by rw [Array.length_toList]; rfl
      have hn : t.data.toList = [] := List.eq_nil_of_length_eq_zero (by omega)
      rw [← HO.out, hn]
      rfl)
    go_wp2
    go_loopg [5] 1 (fun g v5 wc => g = 1 ∧ v5 = .int .i64 0 ∧
      wc = ((w.alloc (.cells #[.string ⟨#[]⟩, .string ⟨#[]⟩, .string ⟨#[]⟩, .bool false, .bool false] 71)).alloc (.cells #[.string ⟨#[]⟩, .string ⟨#[]⟩, .string ⟨#[]⟩, .bool false, .bool false] 71)))
    case atStart => exact ⟨rfl, rfl, rfl⟩
    case round =>
      obtain ⟨_, rfl, rfl⟩ := hrel
      go_wp2
      (try simp only [Exit.inBlock, Exit.then])
      refine bodyPost_ret (sj_results rfl _ _ w.heap.size 71 _ (0, 0) _ rfl ((Below.heap_alloc _ _ _ (by simp)).trans (heap_alloc_new w _)) Try.underlying71 rfl (by kernel_rfl)) rfl ?_
      refine ⟨?_, ((Below.refl _ _).alloc (Nat.le_refl _) _).alloc (by simp) _⟩
      rw [← HOO.out]
      rfl
end Go.Proofs.Ytifcmhekpbfboaa
