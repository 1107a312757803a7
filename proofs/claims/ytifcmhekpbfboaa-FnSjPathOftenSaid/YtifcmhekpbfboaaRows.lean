/-
  No cell of these rows narrows 'for every input' (looked for: loops, veiled, ifaces, maps, wideKeys, modest, calm, conditions, laid).
  DERIVED. THE GIVEN ROWS OF THIS SEAT. 7 by the template 'for every input the law returns true; each argument reads behind the call as it read before'; 0 by the template 'total and deterministic' (their statements: YtifcmhekpbfboaaTotals.lean).
  GIVEN WITH THE SEED: the statements are not yours to turn. If you find one false, say at which input.
  Laid BY PROGRAM, IN A SANDBOX (cutbox-rows.mjs): the forced cells as the released guide's own fill.sh prints them over the translation 2637c8734320e6e1… (all of the seat's roots in one cut). By AI agents, Wed Nov 11 2026. No macro, syntax, notation, axiom, sorry.
-/
import Derived.Test.YtifcmhekpbfboaaChecked
import GoSem.Claim
import GoSem.ClaimJoined
import GoSem.ClaimMapViews
import Derived.JoinedTies
import Derived.KernelRfl
namespace Go.Proofs.Ytifcmhekpbfboaa
/- THE CELL 'sum', in the pinned program and in every row, IS THE sha256 OF THE DUMP (.gsa) THAT YtifcmhekpbfboaaProg.lean LOADS. Nothing in Lean hashes anything: it is a label: what it is worth is what the hold of that sum in a sandbox is worth. -/
noncomputable def Try.pinned : Pinned := { name := "ytifcmhekpbfboaa", sum := "2637c8734320e6e18c5dd90fa7e070681e5a432442f2a962cd3d561598f3b495", checked := Try.checked }
namespace Rows
def none {H : Type} : Left H := { results := [], args := [] }

/-- 'laws.FnMtIsPattern': WHATEVER THE INPUT: true; the input reads as it did. -/
def fnMtIsPatternSpec : ChangeSpec := { name := "fnMtIsPattern", fn := fun _ => fun
  | [d] => { results := [.lit (.bool true)], args := [d] }
  | _ => none }
def fnMtIsPatternRow : OpenClaim := { program := "ytifcmhekpbfboaa", sum := "2637c8734320e6e18c5dd90fa7e070681e5a432442f2a962cd3d561598f3b495", func := "pub-tetrapla/laws.FnMtIsPattern", spec := "fnMtIsPattern", apart := false }
def FnMtIsPatternSaid : Prop := fnMtIsPatternRow.holds Try.pinned (OpenSpec.ofChange fnMtIsPatternSpec)

/-- ITS FALSE NEIGHBOUR: 'it returns false'. Refute it at one input. -/
def fnMtIsPatternWrong : ChangeSpec := { name := "fnMtIsPattern", fn := fun _ => fun
  | [d] => { results := [.lit (.bool false)], args := [d] }
  | _ => none }
def FnMtIsPatternWrongFalsely : Prop := fnMtIsPatternRow.holds Try.pinned (OpenSpec.ofChange fnMtIsPatternWrong)

/-- 'laws.FnPaToken': WHATEVER THE INPUT: true; the input reads as it did. -/
def fnPaTokenSpec : ChangeSpec := { name := "fnPaToken", fn := fun _ => fun
  | [d] => { results := [.lit (.bool true)], args := [d] }
  | _ => none }
def fnPaTokenRow : OpenClaim := { program := "ytifcmhekpbfboaa", sum := "2637c8734320e6e18c5dd90fa7e070681e5a432442f2a962cd3d561598f3b495", func := "pub-tetrapla/laws.FnPaToken", spec := "fnPaToken", apart := false }
def FnPaTokenSaid : Prop := fnPaTokenRow.holds Try.pinned (OpenSpec.ofChange fnPaTokenSpec)

/-- ITS FALSE NEIGHBOUR: 'it returns false'. Refute it at one input. -/
def fnPaTokenWrong : ChangeSpec := { name := "fnPaToken", fn := fun _ => fun
  | [d] => { results := [.lit (.bool false)], args := [d] }
  | _ => none }
def FnPaTokenWrongFalsely : Prop := fnPaTokenRow.holds Try.pinned (OpenSpec.ofChange fnPaTokenWrong)

/-- 'laws.FnGjSafeInt': WHATEVER THE INPUT: true; the input reads as it did. -/
def fnGjSafeIntSpec : ChangeSpec := { name := "fnGjSafeInt", fn := fun _ => fun
  | [d] => { results := [.lit (.bool true)], args := [d] }
  | _ => none }
def fnGjSafeIntRow : OpenClaim := { program := "ytifcmhekpbfboaa", sum := "2637c8734320e6e18c5dd90fa7e070681e5a432442f2a962cd3d561598f3b495", func := "pub-tetrapla/laws.FnGjSafeInt", spec := "fnGjSafeInt", inPlace := ["math.archTrunc", "math.Float64bits", "math.Float64frombits"], apart := false }
def FnGjSafeIntSaid : Prop := fnGjSafeIntRow.holds Try.pinned (OpenSpec.ofChange fnGjSafeIntSpec)

/-- ITS FALSE NEIGHBOUR: 'it returns false'. Refute it at one input. -/
def fnGjSafeIntWrong : ChangeSpec := { name := "fnGjSafeInt", fn := fun _ => fun
  | [d] => { results := [.lit (.bool false)], args := [d] }
  | _ => none }
def FnGjSafeIntWrongFalsely : Prop := fnGjSafeIntRow.holds Try.pinned (OpenSpec.ofChange fnGjSafeIntWrong)

/-- 'laws.FnFjRawKey': WHATEVER THE INPUT: true; the input reads as it did. -/
def fnFjRawKeySpec : ChangeSpec := { name := "fnFjRawKey", fn := fun _ => fun
  | [d] => { results := [.lit (.bool true)], args := [d] }
  | _ => none }
def fnFjRawKeyRow : OpenClaim := { program := "ytifcmhekpbfboaa", sum := "2637c8734320e6e18c5dd90fa7e070681e5a432442f2a962cd3d561598f3b495", func := "pub-tetrapla/laws.FnFjRawKey", spec := "fnFjRawKey", inPlace := ["internal/bytealg.IndexByteString"], apart := false }
def FnFjRawKeySaid : Prop := fnFjRawKeyRow.holds Try.pinned (OpenSpec.ofChange fnFjRawKeySpec)

/-- ITS FALSE NEIGHBOUR: 'it returns false'. Refute it at one input. -/
def fnFjRawKeyWrong : ChangeSpec := { name := "fnFjRawKey", fn := fun _ => fun
  | [d] => { results := [.lit (.bool false)], args := [d] }
  | _ => none }
def FnFjRawKeyWrongFalsely : Prop := fnFjRawKeyRow.holds Try.pinned (OpenSpec.ofChange fnFjRawKeyWrong)

/-- 'laws.FnSjPathOften': WHATEVER THE INPUT: true; the input reads as it did. -/
def fnSjPathOftenSpec : ChangeSpec := { name := "fnSjPathOften", fn := fun _ => fun
  | [d1, d2] => { results := [.lit (.bool true)], args := [d1, d2] }
  | _ => none }
def fnSjPathOftenRow : OpenClaim := { program := "ytifcmhekpbfboaa", sum := "2637c8734320e6e18c5dd90fa7e070681e5a432442f2a962cd3d561598f3b495", func := "pub-tetrapla/laws.FnSjPathOften", spec := "fnSjPathOften", apart := false }
def FnSjPathOftenSaid : Prop := fnSjPathOftenRow.holds Try.pinned (OpenSpec.ofChange fnSjPathOftenSpec)

/-- ITS FALSE NEIGHBOUR: 'it returns false'. Refute it at one input. -/
def fnSjPathOftenWrong : ChangeSpec := { name := "fnSjPathOften", fn := fun _ => fun
  | [d1, d2] => { results := [.lit (.bool false)], args := [d1, d2] }
  | _ => none }
def FnSjPathOftenWrongFalsely : Prop := fnSjPathOftenRow.holds Try.pinned (OpenSpec.ofChange fnSjPathOftenWrong)

/-- 'laws.FnGjQueryAny': WHATEVER THE INPUT: true; the input reads as it did. -/
def fnGjQueryAnySpec : ChangeSpec := { name := "fnGjQueryAny", fn := fun _ => fun
  | [d] => { results := [.lit (.bool true)], args := [d] }
  | _ => none }
def fnGjQueryAnyRow : OpenClaim := { program := "ytifcmhekpbfboaa", sum := "2637c8734320e6e18c5dd90fa7e070681e5a432442f2a962cd3d561598f3b495", func := "pub-tetrapla/laws.FnGjQueryAny", spec := "fnGjQueryAny", apart := false }
def FnGjQueryAnySaid : Prop := fnGjQueryAnyRow.holds Try.pinned (OpenSpec.ofChange fnGjQueryAnySpec)

/-- ITS FALSE NEIGHBOUR: 'it returns false'. Refute it at one input. -/
def fnGjQueryAnyWrong : ChangeSpec := { name := "fnGjQueryAny", fn := fun _ => fun
  | [d] => { results := [.lit (.bool false)], args := [d] }
  | _ => none }
def FnGjQueryAnyWrongFalsely : Prop := fnGjQueryAnyRow.holds Try.pinned (OpenSpec.ofChange fnGjQueryAnyWrong)

/-- 'laws.FnGjQueryOpen': WHATEVER THE INPUT: true; the input reads as it did. -/
def fnGjQueryOpenSpec : ChangeSpec := { name := "fnGjQueryOpen", fn := fun _ => fun
  | [d1, d2] => { results := [.lit (.bool true)], args := [d1, d2] }
  | _ => none }
def fnGjQueryOpenRow : OpenClaim := { program := "ytifcmhekpbfboaa", sum := "2637c8734320e6e18c5dd90fa7e070681e5a432442f2a962cd3d561598f3b495", func := "pub-tetrapla/laws.FnGjQueryOpen", spec := "fnGjQueryOpen", apart := false }
def FnGjQueryOpenSaid : Prop := fnGjQueryOpenRow.holds Try.pinned (OpenSpec.ofChange fnGjQueryOpenSpec)

/-- ITS FALSE NEIGHBOUR: 'it returns false'. Refute it at one input. -/
def fnGjQueryOpenWrong : ChangeSpec := { name := "fnGjQueryOpen", fn := fun _ => fun
  | [d1, d2] => { results := [.lit (.bool false)], args := [d1, d2] }
  | _ => none }
def FnGjQueryOpenWrongFalsely : Prop := fnGjQueryOpenRow.holds Try.pinned (OpenSpec.ofChange fnGjQueryOpenWrong)

/- THE SECOND FORM. 'bulk': how many values and letters a reading holds, each counted each time it is reached (what is shared counts as often as it is met; a slice's spare places count too). A statement '..UptoSaid' is the law's where the arguments, and the package variables that the reading takes, are together of bulk at most 1048576: NARROWER than '..Said'. Prove '..Said' where nothing that the law and all that it calls make is longer than what came in: it says more and counts as full. Else prove '..UptoSaid'. A law counts once. -/
mutual
def uptoBulk {H : Type} : DataW H → Nat
  | .lit (.string bytes) => bytes.length + 1
  | .lit _ => 1
  | .nil => 1
  | .ptr d => uptoBulk d + 1
  | .slice elems spare => uptoBulkAll elems + uptoBulkAll spare + 1
  | .agg parts => uptoBulkAll parts + 1
  | .iface _ d => uptoBulk d + 1
  | .map entries => uptoBulkEntries entries + 1
  | .held _ => 1
def uptoBulkAll {H : Type} : List (DataW H) → Nat
  | [] => 0
  | d :: r => uptoBulk d + uptoBulkAll r
def uptoBulkEntries {H : Type} : List (Lit × DataW H) → Nat
  | [] => 0
  | x :: r => uptoBulkEntry x + uptoBulkEntries r
def uptoBulkEntry {H : Type} : Lit × DataW H → Nat
  | (.string bytes, d) => bytes.length + uptoBulk d + 1
  | (_, d) => uptoBulk d + 1
 end
def uptoSmall : (H : Type) → List (DataW H) → Bool := fun _ ds => decide (uptoBulkAll ds ≤ 1048576)
def OpenSpec.upto (s : _root_.Go.ChangeSpec) : _root_.Go.OpenSpec := { _root_.Go.OpenSpec.ofChange s with cond := some uptoSmall }

/-- 'laws.FnMtIsPattern', WHERE WHAT IT READS IS OF BULK AT MOST 1048576: true; the input reads as it did. -/
def fnMtIsPatternUptoRow : OpenClaim := { program := "ytifcmhekpbfboaa", sum := "2637c8734320e6e18c5dd90fa7e070681e5a432442f2a962cd3d561598f3b495", func := "pub-tetrapla/laws.FnMtIsPattern", spec := "fnMtIsPattern", apart := false, narrowed := true }
def FnMtIsPatternUptoSaid : Prop := fnMtIsPatternUptoRow.holds Try.pinned (OpenSpec.upto fnMtIsPatternSpec)

/-- 'laws.FnPaToken', WHERE WHAT IT READS IS OF BULK AT MOST 1048576: true; the input reads as it did. -/
def fnPaTokenUptoRow : OpenClaim := { program := "ytifcmhekpbfboaa", sum := "2637c8734320e6e18c5dd90fa7e070681e5a432442f2a962cd3d561598f3b495", func := "pub-tetrapla/laws.FnPaToken", spec := "fnPaToken", apart := false, narrowed := true }
def FnPaTokenUptoSaid : Prop := fnPaTokenUptoRow.holds Try.pinned (OpenSpec.upto fnPaTokenSpec)

/-- 'laws.FnGjSafeInt', WHERE WHAT IT READS IS OF BULK AT MOST 1048576: true; the input reads as it did. -/
def fnGjSafeIntUptoRow : OpenClaim := { program := "ytifcmhekpbfboaa", sum := "2637c8734320e6e18c5dd90fa7e070681e5a432442f2a962cd3d561598f3b495", func := "pub-tetrapla/laws.FnGjSafeInt", spec := "fnGjSafeInt", inPlace := ["math.archTrunc", "math.Float64bits", "math.Float64frombits"], apart := false, narrowed := true }
def FnGjSafeIntUptoSaid : Prop := fnGjSafeIntUptoRow.holds Try.pinned (OpenSpec.upto fnGjSafeIntSpec)

/-- 'laws.FnFjRawKey', WHERE WHAT IT READS IS OF BULK AT MOST 1048576: true; the input reads as it did. -/
def fnFjRawKeyUptoRow : OpenClaim := { program := "ytifcmhekpbfboaa", sum := "2637c8734320e6e18c5dd90fa7e070681e5a432442f2a962cd3d561598f3b495", func := "pub-tetrapla/laws.FnFjRawKey", spec := "fnFjRawKey", inPlace := ["internal/bytealg.IndexByteString"], apart := false, narrowed := true }
def FnFjRawKeyUptoSaid : Prop := fnFjRawKeyUptoRow.holds Try.pinned (OpenSpec.upto fnFjRawKeySpec)

/-- 'laws.FnSjPathOften', WHERE WHAT IT READS IS OF BULK AT MOST 1048576: true; the input reads as it did. -/
def fnSjPathOftenUptoRow : OpenClaim := { program := "ytifcmhekpbfboaa", sum := "2637c8734320e6e18c5dd90fa7e070681e5a432442f2a962cd3d561598f3b495", func := "pub-tetrapla/laws.FnSjPathOften", spec := "fnSjPathOften", apart := false, narrowed := true }
def FnSjPathOftenUptoSaid : Prop := fnSjPathOftenUptoRow.holds Try.pinned (OpenSpec.upto fnSjPathOftenSpec)

/-- 'laws.FnGjQueryAny', WHERE WHAT IT READS IS OF BULK AT MOST 1048576: true; the input reads as it did. -/
def fnGjQueryAnyUptoRow : OpenClaim := { program := "ytifcmhekpbfboaa", sum := "2637c8734320e6e18c5dd90fa7e070681e5a432442f2a962cd3d561598f3b495", func := "pub-tetrapla/laws.FnGjQueryAny", spec := "fnGjQueryAny", apart := false, narrowed := true }
def FnGjQueryAnyUptoSaid : Prop := fnGjQueryAnyUptoRow.holds Try.pinned (OpenSpec.upto fnGjQueryAnySpec)

/-- 'laws.FnGjQueryOpen', WHERE WHAT IT READS IS OF BULK AT MOST 1048576: true; the input reads as it did. -/
def fnGjQueryOpenUptoRow : OpenClaim := { program := "ytifcmhekpbfboaa", sum := "2637c8734320e6e18c5dd90fa7e070681e5a432442f2a962cd3d561598f3b495", func := "pub-tetrapla/laws.FnGjQueryOpen", spec := "fnGjQueryOpen", apart := false, narrowed := true }
def FnGjQueryOpenUptoSaid : Prop := fnGjQueryOpenUptoRow.holds Try.pinned (OpenSpec.upto fnGjQueryOpenSpec)

end Rows
end Go.Proofs.Ytifcmhekpbfboaa
