/- A merge patch merged a second time changes nothing: the row of FnPaMergeAgain and its card, for arguments that are together of bulk at most 2^20. Condition: the listed variables read as the row says. -/
import Derived.Test.YtdjogkfgegopfaaDoorHe
import Derived.Test.YtdjogkfgegopfaaDoorCards
import Derived.Test.YtdjogkfgegopfaaDoorTie
import Derived.WalkKit
import Derived.ProofKit
import Derived.OpenShut
import Derived.LaidMore
import Derived.LaidLaws
import Derived.Stop.Joined
import Derived.Stop.LaidErr
import Derived.SevenTiedAt
import Derived.Deep.DeepHandedRow
import Derived.Deep.DeepWitnessRowRef
import Derived.Carry
namespace Go.Proofs.YtdjogkfgegopfaaDoor.fnPaMergeAgain
open Go.ChangeShapes Go.WideShapes Go.ChangeAt Go.RowKit Go.Proofs.YtdjogkfgegopfaaDoor.MFnPaMergeAgain Go.Proofs.YtdjogkfgegopfaaDoor.Pure
set_option linter.unusedVariables false

theorem own : ownKnob Tryd.prog.godebug = none := by kernel_rfl
theorem gInv : Tryd.prog.globalNamed "pub-tetrapla/pub/jsonpatch.ErrInvalid" = some 0 := by kernel_rfl
theorem gMis : Tryd.prog.globalNamed "pub-tetrapla/pub/jsonpatch.ErrMissing" = some 2 := by kernel_rfl
theorem tInv : (Tryd.prog.globals[0]?).map (·.type) = some 53 := by kernel_rfl
theorem tMis : (Tryd.prog.globals[2]?).map (·.type) = some 53 := by kernel_rfl
theorem star : "*" ++ "errors.errorString" = "*errors.errorString" := by decide
theorem rowE (u : TypeId) (h : Tryd.prog.typeName? 3 u = some "*errors.errorString") : u = 115 :=
  typeName_ptr_named (nm := "errors.errorString") (by rw [star]; kernel_rfl) (by kernel_rfl) (by decide) u (by rw [star]; exact h)

/-- What the row lists, as the walks ask for it. -/
theorem gl {W : World} (h : laidMetH Tryd.prog Rows.fnPaMergeAgainUptoRow.laid W) : GLp 3 W := by
  rw [MakeChecks.laidMetH_plain _ _ _ (by kernel_rfl)] at h
  obtain ⟨a2, s2, hv2, -, -, -⟩ := laid_sentinel h gMis tMis Tryd.underlying53 rowE Tryd.underlying115 Tryd.underlying152 rfl rfl Tryd.underlying9 (by kernel_rfl) (by kernel_rfl)
  obtain ⟨a0, s0, hv0, -, -, -⟩ := laid_sentinel h.tail gInv tInv Tryd.underlying53 rowE Tryd.underlying115 Tryd.underlying152 rfl rfl Tryd.underlying9 (by kernel_rfl) (by kernel_rfl)
  have c0 : W.cell? ⟨0, 0, none⟩ = some (.iface 115 (.pointer (some a0))) := by simpa using World.var?_cell gInv hv0 0
  have c2 : W.cell? ⟨2, 0, none⟩ = some (.iface 115 (.pointer (some a2))) := by simpa using World.var?_cell gMis hv2 0
  have hs := World.block_lt_of_cell? W _ c2
  exact ⟨hs, by decide, by decide, ⟨_, c0⟩, _, c2⟩

abbrev zero : Value := .agg #[.int .i64 0, .string ⟨#[]⟩, .slice none 0 0, .slice none 0 0]
theorem door_met (os : Os) (args : Array Value) : laidMetH Tryd.prog Rows.fnPaMergeAgainUptoRow.laid ((World.doorLaid Tryd.prog 400 os).forCall (fun _ _ => 0) ⟨#[], args, []⟩).memory :=
  laidMetH_of_parts3 (fuel := 8) (laidMet_of_run' 8 (by kernel_rfl) (by kernel_rfl)) (by kernel_rfl) (by kernel_rfl)
theorem laidOut : laidOutB Tryd.prog = true := by kernel_rfl

set_option maxRecDepth 100000 in
theorem lifted (os : Os) (started : os.Started) (H : Type) (enc : TypeId × Value → H) (F : Stop.Interp) :
    ReturnsInHanded {} Tryd.checked os 3 .any ((Rows.OpenSpec.upto Rows.fnPaMergeAgainSpec).preRow enc Tryd.prog Tryd.f3 Rows.fnPaMergeAgainUptoRow.domain false Rows.fnPaMergeAgainUptoRow.laid) (((Rows.OpenSpec.upto Rows.fnPaMergeAgainSpec).at F).post enc Tryd.prog Tryd.f3 false true false false) := by
  have hx : (DataW.whole enc Tryd.prog ((World.doorLaid Tryd.prog 400 os).forCall (fun _ _ => 0) ⟨#[], #[zero, zero], []⟩).memory Tryd.f3.params.toList Rows.fnPaMergeAgainSpec.vars false #[zero, zero].toList 8).map (fun x => (x.1, x.2.1)) =
      some ([.agg [.lit (.int .i64 0), .lit (.string []), .nil, .nil], .agg [.lit (.int .i64 0), .lit (.string []), .nil, .nil]], []) := by kernel_rfl
  obtain ⟨⟨x1, x2, x3⟩, hx, hx1⟩ := Option.map_eq_some_iff.1 hx
  simp only [Prod.mk.injEq] at hx1
  obtain ⟨rfl, rfl⟩ := hx1
  refine returnsInHanded_of_row (C := Tryd.checked) (s := Rows.OpenSpec.upto Rows.fnPaMergeAgainSpec) own started (by kernel_rfl) Tryd.func3
    (witness_row_atRef (enc := enc) (C := Tryd.checked) false (World.doorLaid Tryd.prog 400 os) #[zero, zero] rfl (by kernel_rfl) (by kernel_rfl) (by kernel_rfl)
      (OpenSpec.preRow_of_cond 8 hx (by kernel_rfl) (fun k hk => by cases hk; kernel_rfl) (by kernel_rfl) (door_met os _))) ?_
  intro W base args ds gs before hval hW _ hcond _ hL _ _
  have hGL := gl hL
  have hW' := hW
  obtain ⟨p, q, hA0, hV, rfl, hfz, hnd⟩ := hW
  have hA : DataW.TrodAll enc Tryd.prog W 0 (fun _ => true) true Tryd.f3.params.toList args.toList ds p := hA0
  rw [Tryd.params3] at hA hval
  obtain ⟨v0, vs0, d0, ds0, p0, q0, hargs, rfl, rfl, h0, r0⟩ := trodAll_cons hA
  obtain ⟨v1, vs1, d1, ds1, p1, q1, rfl, rfl, rfl, h1, r1⟩ := trodAll_cons r0
  obtain ⟨rfl, rfl, rfl⟩ := trodAll_nil r1
  obtain rfl : args = #[v0, v1] := by cases args; simp_all
  obtain ⟨rfl, rfl⟩ := trodVars_none hV
  clear hA0
  have hsm : Rows.uptoBulkAll ([d0, d1] ++ ([] : List (DataW H))) ≤ 1048576 := of_decide_eq_true (hcond _ rfl)
  have hsm0 : Rows.uptoBulk d0 + (Rows.uptoBulk d1 + 0) ≤ 1048576 := hsm
  obtain ⟨c0, rfl, -⟩ := okWide_struct Tryd.underlying25 (hval 0 25 v0 rfl rfl)
  obtain ⟨c1, rfl, -⟩ := okWide_struct Tryd.underlying25 (hval 1 25 v1 rfl rfl)
  have k0 := h0
  have k1 := h1
  have lt0 : ∀ x ∈ p0, x.block < W.heap.size := by obtain ⟨m, hm⟩ := k0; exact DataW.trod_lt m _ _ _ hm
  have lt1 : ∀ x ∈ p1, x.block < W.heap.size := by obtain ⟨m, hm⟩ := k1; exact DataW.trod_lt m _ _ _ hm
  obtain ⟨f0, h0⟩ := h0
  obtain ⟨f1, h1⟩ := h1
  obtain ⟨T0, hT0, hb0⟩ := open_tree f0 c0.toList _ h0
  obtain ⟨T1, hT1, hb1⟩ := open_tree f1 c1.toList _ h1
  have hlaw := law_any 3 T0 T1 c0.toList c1.toList W (big_mono (show Rows.uptoBulk d0 ≤ 1048576 by omega) T0 hb0) (big_mono (show Rows.uptoBulk d1 ≤ 1048576 by omega) T1 hb1) hT0 hT1 hGL
  simp only [Array.toArray_toList] at hlaw
  refine hlaw.mono fun e W' ⟨he, bel⟩ => ?_
  subst he
  exact ⟨_, rfl, _, _, _, [], _, [], hW', trodAll_mk1 (shut_bool Tryd.underlying4 _), (trodAll_cons_mk (Below.trod laidOut (by kernel_rfl) (of_decide_eq_true (by kernel_rfl)) k0 bel lt0) (trodAll_cons_mk (Below.trod laidOut (by kernel_rfl) (of_decide_eq_true (by kernel_rfl)) k1 bel lt1) trodAll_mk0)), rfl, bel.frame _, fun h => by cases h⟩

theorem said : Rows.FnPaMergeAgainUptoSaid :=
  OpenClaim.holds_of_cond 3 Tryd.f3 rfl rfl rfl rfl rfl rfl rfl ⟨rfl, rfl, rfl, rfl, rfl⟩ rfl rfl rfl rfl rfl (by kernel_rfl) Tryd.func3 (by kernel_rfl)
    (of_decide_eq_true (by kernel_rfl)) (by unfold Func.isWrapper; first | (rw [if_pos (by decide +kernel)]; kernel_rfl) | (rw [if_neg (by decide +kernel)]; exact ⟨rfl, rfl⟩))
    (fun os started H enc _ F => by rw [OpenClaim.pre_eq_preRow]; exact lifted os started H enc F)

/-- No parameter wants a stand-in; the program's own looks are on. -/
theorem plain (f : FuncId) (fn : Func) (hf : Tryd.pinned.checked.prog.funcNamed "pub-tetrapla/laws.FnPaMergeAgain" = some f) (hfn : Tryd.pinned.checked.prog.funcs[f]? = some fn) :
    true = Tryd.pinned.checked.prog.looks [] ∧ ∀ (j : Nat) t, fn.params[j]? = some t → Tryd.pinned.checked.prog.wantsStandIn t = false := by
  obtain rfl : f = 3 := Option.some.inj ((show Tryd.prog.funcNamed "pub-tetrapla/laws.FnPaMergeAgain" = some 3 by kernel_rfl).symm.trans hf) |>.symm
  obtain rfl : fn = Tryd.f3 := (Option.some.inj (Tryd.func3.symm.trans hfn)).symm
  refine ⟨by kernel_rfl, fun j t ht => ?_⟩
  rw [Tryd.params3] at ht
  obtain rfl : t = 25 := by
    have := Array.mem_of_getElem? ht
    simpa using this
  exact (show Tryd.prog.wantsStandIn 25 = false by kernel_rfl)

theorem card_holds : Rows.FnPaMergeAgainUptoCardSaid :=
  Claim7.holds_tied_plain_at .later [] _ _ _ _ said (fun _ h => by cases h) (by kernel_rfl) (fun _ h => by cases h) fnPaMergeAgainUpto_row_tie rfl ⟨rfl, rfl⟩ (by kernel_rfl) rfl plain (by kernel_rfl)
end Go.Proofs.YtdjogkfgegopfaaDoor.fnPaMergeAgain
namespace Go.Proofs.YtdjogkfgegopfaaDoor
/-- The card, under a short name, for the claim. -/
theorem fnPaMergeAgain_holds : Rows.FnPaMergeAgainUptoCardSaid := fnPaMergeAgain.card_holds
#print axioms fnPaMergeAgain_holds
end Go.Proofs.YtdjogkfgegopfaaDoor
