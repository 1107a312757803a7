/- The row of the law laws_FnSjPathOften, out of its pure statement and its walk. No condition. -/
import Derived.Test.YtifcmhekpbfboaaRows
import Derived.Test.YtifcmhekpbfboaaMFnSjPathOften3
import Derived.Test.YtifcmhekpbfboaaPureFnSjPathOften
import Derived.WalkKit
import Derived.ProofKit
import Derived.OpenShut
import Derived.ShutString
import Derived.ChangeOld
import Derived.Below
import Derived.SizedLaws
import Derived.Carry
import Derived.SliceStrings
namespace Go.Proofs.Ytifcmhekpbfboaa.fnSjPathOften
open Go.ChangeShapes Go.WideShapes Go.ChangeAt Go.RowKit
open Go.ChangeMaps (open_string shut_string)
open Go.Proofs.YtifcmhekpbfboaaW.PrintWords
set_option linter.unusedVariables false
theorem own : ownKnob Try.prog.godebug = none := by kernel_rfl
theorem laidOut : laidOutB Try.prog = true := by kernel_rfl

theorem reads {W : World} {a : Addr} {len : Nat} {ss : List ByteArray} (hl : len ≤ ss.length) (hm : len ≤ maxLen) (hc : ∀ i, i < ss.length → W.cell? (a.add i) = some (.string (ss.getD i ByteArray.empty))) :
    ReadsOf Value.string ByteArray.empty W (some a) (ss.take len).length (ss.take len) := by
  have hlen : (ss.take len).length = len := by rw [List.length_take]; omega
  refine ⟨rfl, by rw [hlen]; simpa [maxLen] using hm, fun _ => ⟨a, rfl, fun j hj => ?_⟩⟩
  rw [hlen] at hj
  rw [hc j (by omega)]
  simp [List.getD_eq_getElem?_getD, hj]

set_option maxRecDepth 100000 in
theorem lifted (os : Os) (started : os.Started) (H : Type) (enc : TypeId × Value → H) :
    ReturnsInHanded {} Try.checked os 7 .any (Rows.fnSjPathOftenSpec.pre6 enc Try.prog Try.f7 Rows.fnSjPathOftenRow.domain false) (Rows.fnSjPathOftenSpec.post enc Try.prog Try.f7 false true false false) := by
  refine returnsInHanded_of_change_sized (C := Try.checked) own started (by kernel_rfl) Try.func7
    (ChangeSpec.witness6 (enc := enc) (C := Try.checked) false ⟨#[], #[.slice none 0 0, .int .u64 0], []⟩ 8 (by kernel_rfl) (by kernel_rfl) (by kernel_rfl) (by kernel_rfl)) ?_
  intro W base args ds gs before hval0 hW hcnd hsz0 _
  have hsz : (DataW.weightsEach Try.prog (Try.f7.params.toList ++ Rows.fnSjPathOftenSpec.plain.varTypes Try.prog) (ds ++ gs)).all (· ≤ reachBytes) = true := hsz0
  have hval : ∀ (j : Nat) t v, Try.f7.params[j]? = some t → args[j]? = some v → Value.okWide Try.prog W .any base t v := hval0
  have hW' := hW
  obtain ⟨p, q, hA0, hV, rfl, hfz, hnd⟩ := hW
  have hA : DataW.TrodAll enc Try.prog W 0 (fun _ => true) true Try.f7.params.toList args.toList ds p := hA0
  rw [Try.params7] at hA hval hsz
  obtain ⟨v0, vs0, d0, ds0, p0, q0, hargs, rfl, rfl, h0, r0⟩ := trodAll_cons hA
  obtain ⟨v1, vs1, d1, ds1, p1, q1, rfl, rfl, rfl, h1, r1⟩ := trodAll_cons r0
  obtain ⟨rfl, rfl, rfl⟩ := trodAll_nil r1
  obtain rfl : args = #[v0, v1] := by cases args; simp_all
  obtain ⟨rfl, rfl⟩ := trodVars_none hV
  obtain ⟨a0, len0, cap0, rfl⟩ := okWide_slice Try.underlying30 (hval 0 30 v0 rfl rfl)
  have k0 := h0
  have lt0 : ∀ x ∈ p0, x.block < W.heap.size := by obtain ⟨m, hm⟩ := k0; exact DataW.trod_lt m _ _ _ hm
  obtain ⟨l0, hlen0, hr0, hc0⟩ : ∃ l : List ByteArray, l.length = len0 ∧ ReadsOf Value.string ByteArray.empty W a0 l.length l ∧ l.length ≤ cap0 := by
    obtain ⟨fuel, hf⟩ := h0
    rcases open_strings Try.underlying30 Try.underlying9 (by kernel_rfl) hf with ⟨hcs, _⟩ | ⟨x, l, c, ss, hcs, _, hl, hm, hz, _, hcell, hwz⟩
    · simp [Value.cells] at hcs
      obtain ⟨rfl, rfl, rfl⟩ := hcs
      exact ⟨[], rfl, ReadsOf.nil _ _ _, Nat.le_refl _⟩
    · simp [Value.cells] at hcs
      obtain ⟨rfl, rfl, rfl⟩ := hcs
      have hz' : ss.length = cap0 := by simpa using hz
      have hlt : (ss.take len0).length = len0 := by rw [List.length_take]; omega
      exact ⟨ss.take len0, hlt, reads (by omega) (by omega) hcell, by rw [hlt]; exact hl⟩
  subst hlen0
  obtain ⟨a1, rfl, rfl, rfl, w1⟩ := open_int Try.underlying42 (hval 1 42 v1 rfl rfl) h1
  clear hA0 hval0 hsz0 hsz
  obtain ⟨k, h⟩ := Pure.FnSjPathOften l0 a1
  refine (MFnSjPathOften.laws_FnSjPathOften.calls k a0 cap0 l0 a1 true W (Kd.C_of_reads (h1 := fun _ => rfl) hr0) hc0 h).mono fun e W' ⟨he, bel⟩ => ?_
  subst he
  exact ⟨_, rfl, _, _, _, [], _, [], hW', trodAll_mk1 (shut_bool Try.underlying4 _), (trodAll_cons_mk (Below.trod laidOut (by kernel_rfl) (of_decide_eq_true (by kernel_rfl)) k0 bel lt0) (trodAll_cons_mk (shut_int Try.underlying42 w1) trodAll_mk0)), rfl, bel.frame _, fun h => by cases h⟩
theorem over : Rows.fnSjPathOftenRow.holds Try.pinned (OpenSpec.ofChange Rows.fnSjPathOftenSpec) :=
  OpenClaim.holds_of_wide 7 Try.f7 rfl rfl rfl rfl rfl rfl rfl ⟨rfl, rfl, rfl, rfl, rfl⟩ rfl rfl rfl rfl rfl (by kernel_rfl) Try.func7 (by kernel_rfl)
    (of_decide_eq_true (by kernel_rfl)) (by unfold Func.isWrapper; first | (rw [if_pos (by decide +kernel)]; kernel_rfl) | (rw [if_neg (by decide +kernel)]; exact ⟨rfl, rfl⟩))
    (fun os started H enc _ => lifted os started H enc)
theorem proved : Rows.FnSjPathOftenSaid := over
#print axioms proved
end Go.Proofs.Ytifcmhekpbfboaa.fnSjPathOften
namespace Go.Proofs.Ytifcmhekpbfboaa
/-- The row, under a short name, for the claim. -/
theorem fnSjPathOften_holds : Rows.FnSjPathOftenSaid := fnSjPathOften.proved
end Go.Proofs.Ytifcmhekpbfboaa
