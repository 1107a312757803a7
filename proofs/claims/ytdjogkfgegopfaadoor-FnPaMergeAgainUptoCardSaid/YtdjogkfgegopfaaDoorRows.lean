/-
  NARROWER THAN 'FOR EVERY INPUT', by the rows' own cells (each row's printed sentence says how): FnPaMergeAgain: loops, laid · FnPaPutTake: loops, laid.
  DERIVED. THE GIVEN ROWS OF THIS SEAT. 2 by the template 'for every input the law returns true; each argument reads behind the call as it read before'; 0 by the template 'total and deterministic' (their statements: YtdjogkfgegopfaaDoorTotals.lean).
  GIVEN WITH THE SEED: the statements are not yours to turn. If you find one false, say at which input.
  Laid BY PROGRAM, IN A SANDBOX (cutbox-rows.mjs): the forced cells as the released guide's own fill.sh prints them over the translation ecee062b96ee6465… (all of the seat's roots in one cut). By AI agents, Wed Nov 11 2026. No macro, syntax, notation, axiom, sorry.
-/
import Derived.Test.YtdjogkfgegopfaaDoorChecked
import GoSem.Claim
import GoSem.ClaimJoined
import GoSem.ClaimMapViews
import Derived.JoinedTies
import Derived.KernelRfl
namespace Go.Proofs.YtdjogkfgegopfaaDoor
/- THE CELL 'sum', in the pinned program and in every row, IS THE sha256 OF THE DUMP (.gsa) THAT YtdjogkfgegopfaaDoorProg.lean LOADS. Nothing in Lean hashes anything: it is a label: what it is worth is what the hold of that sum in a sandbox is worth. -/
noncomputable def Tryd.pinned : Pinned := { name := "ytdjogkfgegopfaadoor", sum := "ecee062b96ee6465b57d7fa228ffd7733626d87d2a0792959ab353595cb04f59", checked := Tryd.checked }
namespace Rows
def none {H : Type} : Left H := { results := [], args := [] }

/- WHAT THE LISTED PACKAGE-LEVEL VARIABLES READ AS WHEN THE CALL BEGINS. Each datum BY PROGRAM (the guide's laid-datum.mjs) off the statement by which the dump's own 'gosem.cut.vars' lays the variable. In a bare row this is a premise. The card (YtdjogkfgegopfaaDoorCards.lean) ties it to the program's text. -/
def laid_pub_tetrapla_pub_jsonpatch_ErrMissing {H : Type} : DataW H := .iface "*errors.errorString" (.ptr (.agg [.lit (.string [109, 105, 115, 115, 105, 110, 103, 32, 118, 97, 108, 117, 101])]))
def laid_pub_tetrapla_pub_jsonpatch_ErrInvalid {H : Type} : DataW H := .iface "*errors.errorString" (.ptr (.agg [.lit (.string [105, 110, 118, 97, 108, 105, 100, 32, 115, 116, 97, 116, 101, 32, 100, 101, 116, 101, 99, 116, 101, 100])]))
def laid_pub_tetrapla_pub_jsonpatch_ErrExpectedObject {H : Type} : DataW H := .iface "*errors.errorString" (.ptr (.agg [.lit (.string [105, 110, 118, 97, 108, 105, 100, 32, 118, 97, 108, 117, 101, 44, 32, 101, 120, 112, 101, 99, 116, 101, 100, 32, 111, 98, 106, 101, 99, 116])]))

/-- 'laws.FnPaMergeAgain': WHATEVER THE INPUT: true; the input reads as it did. -/
def fnPaMergeAgainSpec : ChangeSpec := { name := "fnPaMergeAgain", fn := fun _ => fun
  | [d1, d2] => { results := [.lit (.bool true)], args := [d1, d2] }
  | _ => none }
def fnPaMergeAgainRow : OpenClaim := { program := "ytdjogkfgegopfaadoor", sum := "ecee062b96ee6465b57d7fa228ffd7733626d87d2a0792959ab353595cb04f59", func := "pub-tetrapla/laws.FnPaMergeAgain", spec := "fnPaMergeAgain", recurses := true, named := ["pub-tetrapla/pub/jsonpatch.ErrExpectedObject", "pub-tetrapla/pub/jsonpatch.ErrInvalid", "pub-tetrapla/pub/jsonpatch.ErrMissing"], loops := true, apart := false, laid := [("pub-tetrapla/pub/jsonpatch.ErrMissing", laid_pub_tetrapla_pub_jsonpatch_ErrMissing), ("pub-tetrapla/pub/jsonpatch.ErrInvalid", laid_pub_tetrapla_pub_jsonpatch_ErrInvalid), ("pub-tetrapla/pub/jsonpatch.ErrExpectedObject", laid_pub_tetrapla_pub_jsonpatch_ErrExpectedObject)] }
def FnPaMergeAgainSaid : Prop := fnPaMergeAgainRow.holds Tryd.pinned (OpenSpec.ofChange fnPaMergeAgainSpec)

/-- ITS FALSE NEIGHBOUR: 'it returns false'. Refute it at one input. -/
def fnPaMergeAgainWrong : ChangeSpec := { name := "fnPaMergeAgain", fn := fun _ => fun
  | [d1, d2] => { results := [.lit (.bool false)], args := [d1, d2] }
  | _ => none }
def FnPaMergeAgainWrongFalsely : Prop := fnPaMergeAgainRow.holds Tryd.pinned (OpenSpec.ofChange fnPaMergeAgainWrong)

/-- 'laws.FnPaPutTake': WHATEVER THE INPUT: true; the input reads as it did. -/
def fnPaPutTakeSpec : ChangeSpec := { name := "fnPaPutTake", fn := fun _ => fun
  | [d1, d2, d3] => { results := [.lit (.bool true)], args := [d1, d2, d3] }
  | _ => none }
def fnPaPutTakeRow : OpenClaim := { program := "ytdjogkfgegopfaadoor", sum := "ecee062b96ee6465b57d7fa228ffd7733626d87d2a0792959ab353595cb04f59", func := "pub-tetrapla/laws.FnPaPutTake", spec := "fnPaPutTake", unfollowed := true, recurses := true, named := ["pub-tetrapla/pub/jsonpatch.ErrExpectedObject", "pub-tetrapla/pub/jsonpatch.ErrInvalid"], loops := true, apart := false, laid := [("pub-tetrapla/pub/jsonpatch.ErrInvalid", laid_pub_tetrapla_pub_jsonpatch_ErrInvalid), ("pub-tetrapla/pub/jsonpatch.ErrExpectedObject", laid_pub_tetrapla_pub_jsonpatch_ErrExpectedObject)] }
def FnPaPutTakeSaid : Prop := fnPaPutTakeRow.holds Tryd.pinned (OpenSpec.ofChange fnPaPutTakeSpec)

/-- ITS FALSE NEIGHBOUR: 'it returns false'. Refute it at one input. -/
def fnPaPutTakeWrong : ChangeSpec := { name := "fnPaPutTake", fn := fun _ => fun
  | [d1, d2, d3] => { results := [.lit (.bool false)], args := [d1, d2, d3] }
  | _ => none }
def FnPaPutTakeWrongFalsely : Prop := fnPaPutTakeRow.holds Tryd.pinned (OpenSpec.ofChange fnPaPutTakeWrong)

/- THE SECOND FORM. 'bulk': how many values and letters a reading holds, each counted each time it is reached (what is shared counts as often as it is met; a slice's spare places count too). A statement '..UptoSaid' is the law's where the arguments, and the package variables that the reading takes, are together of bulk at most 1048576: NARROWER than '..Said'. Prove '..Said' where nothing that the law and all that it calls make is longer than what came in: it says more and counts as full. Else prove '..UptoSaid'. A law counts once. -/
mutual
def uptoBulk {H : Type} : DataW H → Nat
  | .lit (.string bytes) => bytes.length + 1
  | .lit _ => 1
  | .nil => 1
  | .ptr d => uptoBulk d + 1
  | .slice elems spare => uptoBulkAll elems + uptoBulkAll spare + 1
  | .agg parts => uptoBulkAll parts + 1
  | .iface _ d => uptoBulk d + 1
  | .map entries => uptoBulkEntries entries + 1
  | .held _ => 1
def uptoBulkAll {H : Type} : List (DataW H) → Nat
  | [] => 0
  | d :: r => uptoBulk d + uptoBulkAll r
def uptoBulkEntries {H : Type} : List (Lit × DataW H) → Nat
  | [] => 0
  | x :: r => uptoBulkEntry x + uptoBulkEntries r
def uptoBulkEntry {H : Type} : Lit × DataW H → Nat
  | (.string bytes, d) => bytes.length + uptoBulk d + 1
  | (_, d) => uptoBulk d + 1
 end
def uptoSmall : (H : Type) → List (DataW H) → Bool := fun _ ds => decide (uptoBulkAll ds ≤ 1048576)
def OpenSpec.upto (s : _root_.Go.ChangeSpec) : _root_.Go.OpenSpec := { _root_.Go.OpenSpec.ofChange s with cond := some uptoSmall }

/-- 'laws.FnPaMergeAgain', WHERE WHAT IT READS IS OF BULK AT MOST 1048576: true; the input reads as it did. -/
def fnPaMergeAgainUptoRow : OpenClaim := { program := "ytdjogkfgegopfaadoor", sum := "ecee062b96ee6465b57d7fa228ffd7733626d87d2a0792959ab353595cb04f59", func := "pub-tetrapla/laws.FnPaMergeAgain", spec := "fnPaMergeAgain", recurses := true, named := ["pub-tetrapla/pub/jsonpatch.ErrExpectedObject", "pub-tetrapla/pub/jsonpatch.ErrInvalid", "pub-tetrapla/pub/jsonpatch.ErrMissing"], loops := true, apart := false, laid := [("pub-tetrapla/pub/jsonpatch.ErrMissing", laid_pub_tetrapla_pub_jsonpatch_ErrMissing), ("pub-tetrapla/pub/jsonpatch.ErrInvalid", laid_pub_tetrapla_pub_jsonpatch_ErrInvalid), ("pub-tetrapla/pub/jsonpatch.ErrExpectedObject", laid_pub_tetrapla_pub_jsonpatch_ErrExpectedObject)], narrowed := true }
def FnPaMergeAgainUptoSaid : Prop := fnPaMergeAgainUptoRow.holds Tryd.pinned (OpenSpec.upto fnPaMergeAgainSpec)

/-- 'laws.FnPaPutTake', WHERE WHAT IT READS IS OF BULK AT MOST 1048576: true; the input reads as it did. -/
def fnPaPutTakeUptoRow : OpenClaim := { program := "ytdjogkfgegopfaadoor", sum := "ecee062b96ee6465b57d7fa228ffd7733626d87d2a0792959ab353595cb04f59", func := "pub-tetrapla/laws.FnPaPutTake", spec := "fnPaPutTake", unfollowed := true, recurses := true, named := ["pub-tetrapla/pub/jsonpatch.ErrExpectedObject", "pub-tetrapla/pub/jsonpatch.ErrInvalid"], loops := true, apart := false, laid := [("pub-tetrapla/pub/jsonpatch.ErrInvalid", laid_pub_tetrapla_pub_jsonpatch_ErrInvalid), ("pub-tetrapla/pub/jsonpatch.ErrExpectedObject", laid_pub_tetrapla_pub_jsonpatch_ErrExpectedObject)], narrowed := true }
def FnPaPutTakeUptoSaid : Prop := fnPaPutTakeUptoRow.holds Tryd.pinned (OpenSpec.upto fnPaPutTakeSpec)

end Rows
end Go.Proofs.YtdjogkfgegopfaaDoor
