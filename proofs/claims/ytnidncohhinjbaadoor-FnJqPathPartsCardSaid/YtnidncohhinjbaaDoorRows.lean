/-
  NARROWER THAN 'FOR EVERY INPUT', by the rows' own cells (each row's printed sentence says how): FnPaMergeAgain: loops, laid · FnJqPathParts: laid · FnFfUint64Best: laid · FnFjCheckElements: laid.
  DERIVED. THE GIVEN ROWS OF THIS SEAT. 4 by the template 'for every input the law returns true; each argument reads behind the call as it read before'; 0 by the template 'total and deterministic' (their statements: YtnidncohhinjbaaDoorTotals.lean).
  GIVEN WITH THE SEED: the statements are not yours to turn. If you find one false, say at which input.
  Laid BY PROGRAM, IN A SANDBOX (cutbox-rows.mjs): the forced cells as the released guide's own fill.sh prints them over the translation f36e6fcb2e2f4656… (all of the seat's roots in one cut). By AI agents, Wed Nov 11 2026. No macro, syntax, notation, axiom, sorry.
-/
import Derived.Test.YtnidncohhinjbaaDoorChecked
import GoSem.Claim
import GoSem.ClaimJoined
import GoSem.ClaimMapViews
import Derived.JoinedTies
import Derived.KernelRfl
namespace Go.Proofs.YtnidncohhinjbaaDoor
/- THE CELL 'sum', in the pinned program and in every row, IS THE sha256 OF THE DUMP (.gsa) THAT YtnidncohhinjbaaDoorProg.lean LOADS. Nothing in Lean hashes anything: it is a label: what it is worth is what the hold of that sum in a sandbox is worth. -/
noncomputable def Tryd.pinned : Pinned := { name := "ytnidncohhinjbaadoor", sum := "f36e6fcb2e2f465689265d2aa772b86790593b1c55e095af950b305bbdbb5b97", checked := Tryd.checked }
namespace Rows
def none {H : Type} : Left H := { results := [], args := [] }

/- WHAT THE LISTED PACKAGE-LEVEL VARIABLES READ AS WHEN THE CALL BEGINS. Each datum BY PROGRAM (the guide's laid-datum.mjs) off the statement by which the dump's own 'gosem.cut.vars' lays the variable. In a bare row this is a premise. The card (YtnidncohhinjbaaDoorCards.lean) ties it to the program's text. -/
def laid_pub_tetrapla_pub_jsonpatch_ErrMissing {H : Type} : DataW H := .iface "*errors.errorString" (.ptr (.agg [.lit (.string [109, 105, 115, 115, 105, 110, 103, 32, 118, 97, 108, 117, 101])]))
def laid_pub_tetrapla_pub_jsonpatch_ErrInvalid {H : Type} : DataW H := .iface "*errors.errorString" (.ptr (.agg [.lit (.string [105, 110, 118, 97, 108, 105, 100, 32, 115, 116, 97, 116, 101, 32, 100, 101, 116, 101, 99, 116, 101, 100])]))
def laid_pub_tetrapla_pub_jsonpatch_ErrExpectedObject {H : Type} : DataW H := .iface "*errors.errorString" (.ptr (.agg [.lit (.string [105, 110, 118, 97, 108, 105, 100, 32, 118, 97, 108, 117, 101, 44, 32, 101, 120, 112, 101, 99, 116, 101, 100, 32, 111, 98, 106, 101, 99, 116])]))
def laid_pub_tetrapla_pub_jsonparser_DefaultConfig {H : Type} : DataW H := .agg [.lit (.bool false), .lit (.bool false), .lit (.int .i64 0)]
def laid_pub_tetrapla_pub_jsonparser_backslashCharEscapeTable {H : Type} : DataW H := .agg [.lit (.int .u8 0), .lit (.int .u8 0), .lit (.int .u8 0), .lit (.int .u8 0), .lit (.int .u8 0), .lit (.int .u8 0), .lit (.int .u8 0), .lit (.int .u8 0), .lit (.int .u8 0), .lit (.int .u8 0), .lit (.int .u8 0), .lit (.int .u8 0), .lit (.int .u8 0), .lit (.int .u8 0), .lit (.int .u8 0), .lit (.int .u8 0), .lit (.int .u8 0), .lit (.int .u8 0), .lit (.int .u8 0), .lit (.int .u8 0), .lit (.int .u8 0), .lit (.int .u8 0), .lit (.int .u8 0), .lit (.int .u8 0), .lit (.int .u8 0), .lit (.int .u8 0), .lit (.int .u8 0), .lit (.int .u8 0), .lit (.int .u8 0), .lit (.int .u8 0), .lit (.int .u8 0), .lit (.int .u8 0), .lit (.int .u8 0), .lit (.int .u8 0), .lit (.int .u8 34), .lit (.int .u8 0), .lit (.int .u8 0), .lit (.int .u8 0), .lit (.int .u8 0), .lit (.int .u8 0), .lit (.int .u8 0), .lit (.int .u8 0), .lit (.int .u8 0), .lit (.int .u8 0), .lit (.int .u8 0), .lit (.int .u8 0), .lit (.int .u8 0), .lit (.int .u8 47), .lit (.int .u8 0), .lit (.int .u8 0), .lit (.int .u8 0), .lit (.int .u8 0), .lit (.int .u8 0), .lit (.int .u8 0), .lit (.int .u8 0), .lit (.int .u8 0), .lit (.int .u8 0), .lit (.int .u8 0), .lit (.int .u8 0), .lit (.int .u8 0), .lit (.int .u8 0), .lit (.int .u8 0), .lit (.int .u8 0), .lit (.int .u8 0), .lit (.int .u8 0), .lit (.int .u8 0), .lit (.int .u8 0), .lit (.int .u8 0), .lit (.int .u8 0), .lit (.int .u8 0), .lit (.int .u8 0), .lit (.int .u8 0), .lit (.int .u8 0), .lit (.int .u8 0), .lit (.int .u8 0), .lit (.int .u8 0), .lit (.int .u8 0), .lit (.int .u8 0), .lit (.int .u8 0), .lit (.int .u8 0), .lit (.int .u8 0), .lit (.int .u8 0), .lit (.int .u8 0), .lit (.int .u8 0), .lit (.int .u8 0), .lit (.int .u8 0), .lit (.int .u8 0), .lit (.int .u8 0), .lit (.int .u8 0), .lit (.int .u8 0), .lit (.int .u8 0), .lit (.int .u8 0), .lit (.int .u8 92), .lit (.int .u8 0), .lit (.int .u8 0), .lit (.int .u8 0), .lit (.int .u8 0), .lit (.int .u8 0), .lit (.int .u8 8), .lit (.int .u8 0), .lit (.int .u8 0), .lit (.int .u8 0), .lit (.int .u8 12), .lit (.int .u8 0), .lit (.int .u8 0), .lit (.int .u8 0), .lit (.int .u8 0), .lit (.int .u8 0), .lit (.int .u8 0), .lit (.int .u8 0), .lit (.int .u8 10), .lit (.int .u8 0), .lit (.int .u8 0), .lit (.int .u8 0), .lit (.int .u8 13), .lit (.int .u8 0), .lit (.int .u8 9)]
def laid_pub_tetrapla_pub_jsonparser_MalformedStringEscapeError {H : Type} : DataW H := .iface "*errors.errorString" (.ptr (.agg [.lit (.string [69, 110, 99, 111, 117, 110, 116, 101, 114, 101, 100, 32, 97, 110, 32, 105, 110, 118, 97, 108, 105, 100, 32, 101, 115, 99, 97, 112, 101, 32, 115, 101, 113, 117, 101, 110, 99, 101, 32, 105, 110, 32, 97, 32, 115, 116, 114, 105, 110, 103])]))
def laid_pub_tetrapla_pub_jsonparser_errEmptyPath {H : Type} : DataW H := .iface "*errors.errorString" (.ptr (.agg [.lit (.string [106, 115, 111, 110, 112, 97, 114, 115, 101, 114, 58, 32, 112, 97, 116, 104, 32, 109, 117, 115, 116, 32, 110, 111, 116, 32, 98, 101, 32, 101, 109, 112, 116, 121])]))
def laid_pub_tetrapla_pub_jsonparser_errMalformedPath {H : Type} : DataW H := .iface "*errors.errorString" (.ptr (.agg [.lit (.string [106, 115, 111, 110, 112, 97, 114, 115, 101, 114, 58, 32, 109, 97, 108, 102, 111, 114, 109, 101, 100, 32, 112, 97, 116, 104])]))
def laid_pub_tetrapla_pub_jsonparser_errUnterminatedKey {H : Type} : DataW H := .iface "*errors.errorString" (.ptr (.agg [.lit (.string [106, 115, 111, 110, 112, 97, 114, 115, 101, 114, 58, 32, 117, 110, 116, 101, 114, 109, 105, 110, 97, 116, 101, 100, 32, 113, 117, 111, 116, 101, 100, 32, 107, 101, 121])]))
def laid_math_bits_deBruijn32tab {H : Type} : DataW H := .agg [.lit (.int .u8 0), .lit (.int .u8 1), .lit (.int .u8 28), .lit (.int .u8 2), .lit (.int .u8 29), .lit (.int .u8 14), .lit (.int .u8 24), .lit (.int .u8 3), .lit (.int .u8 30), .lit (.int .u8 22), .lit (.int .u8 20), .lit (.int .u8 15), .lit (.int .u8 25), .lit (.int .u8 17), .lit (.int .u8 4), .lit (.int .u8 8), .lit (.int .u8 31), .lit (.int .u8 27), .lit (.int .u8 13), .lit (.int .u8 23), .lit (.int .u8 21), .lit (.int .u8 19), .lit (.int .u8 16), .lit (.int .u8 7), .lit (.int .u8 26), .lit (.int .u8 12), .lit (.int .u8 18), .lit (.int .u8 6), .lit (.int .u8 11), .lit (.int .u8 5), .lit (.int .u8 10), .lit (.int .u8 9)]
def laid_math_bits_deBruijn64tab {H : Type} : DataW H := .agg [.lit (.int .u8 0), .lit (.int .u8 1), .lit (.int .u8 56), .lit (.int .u8 2), .lit (.int .u8 57), .lit (.int .u8 49), .lit (.int .u8 28), .lit (.int .u8 3), .lit (.int .u8 61), .lit (.int .u8 58), .lit (.int .u8 42), .lit (.int .u8 50), .lit (.int .u8 38), .lit (.int .u8 29), .lit (.int .u8 17), .lit (.int .u8 4), .lit (.int .u8 62), .lit (.int .u8 47), .lit (.int .u8 59), .lit (.int .u8 36), .lit (.int .u8 45), .lit (.int .u8 43), .lit (.int .u8 51), .lit (.int .u8 22), .lit (.int .u8 53), .lit (.int .u8 39), .lit (.int .u8 33), .lit (.int .u8 30), .lit (.int .u8 24), .lit (.int .u8 18), .lit (.int .u8 12), .lit (.int .u8 5), .lit (.int .u8 63), .lit (.int .u8 55), .lit (.int .u8 48), .lit (.int .u8 27), .lit (.int .u8 60), .lit (.int .u8 41), .lit (.int .u8 37), .lit (.int .u8 16), .lit (.int .u8 46), .lit (.int .u8 35), .lit (.int .u8 44), .lit (.int .u8 21), .lit (.int .u8 52), .lit (.int .u8 32), .lit (.int .u8 23), .lit (.int .u8 11), .lit (.int .u8 54), .lit (.int .u8 26), .lit (.int .u8 40), .lit (.int .u8 15), .lit (.int .u8 34), .lit (.int .u8 20), .lit (.int .u8 31), .lit (.int .u8 10), .lit (.int .u8 25), .lit (.int .u8 14), .lit (.int .u8 19), .lit (.int .u8 9), .lit (.int .u8 13), .lit (.int .u8 8), .lit (.int .u8 7), .lit (.int .u8 6)]
def laid_internal_strconv_uint64pow10 {H : Type} : DataW H := .agg [.lit (.int .u64 1), .lit (.int .u64 10), .lit (.int .u64 100), .lit (.int .u64 1000), .lit (.int .u64 10000), .lit (.int .u64 100000), .lit (.int .u64 1000000), .lit (.int .u64 10000000), .lit (.int .u64 100000000), .lit (.int .u64 1000000000), .lit (.int .u64 10000000000), .lit (.int .u64 100000000000), .lit (.int .u64 1000000000000), .lit (.int .u64 10000000000000), .lit (.int .u64 100000000000000), .lit (.int .u64 1000000000000000), .lit (.int .u64 10000000000000000), .lit (.int .u64 100000000000000000), .lit (.int .u64 1000000000000000000), .lit (.int .u64 10000000000000000000)]
def laid_strconv_ErrRange {H : Type} : DataW H := .iface "*errors.errorString" (.ptr (.agg [.lit (.string [118, 97, 108, 117, 101, 32, 111, 117, 116, 32, 111, 102, 32, 114, 97, 110, 103, 101])]))
def laid_strconv_ErrSyntax {H : Type} : DataW H := .iface "*errors.errorString" (.ptr (.agg [.lit (.string [105, 110, 118, 97, 108, 105, 100, 32, 115, 121, 110, 116, 97, 120])]))

/-- 'laws.FnPaMergeAgain': WHATEVER THE INPUT: true; the input reads as it did. -/
def fnPaMergeAgainSpec : ChangeSpec := { name := "fnPaMergeAgain", fn := fun _ => fun
  | [d1, d2] => { results := [.lit (.bool true)], args := [d1, d2] }
  | _ => none }
def fnPaMergeAgainRow : OpenClaim := { program := "ytnidncohhinjbaadoor", sum := "f36e6fcb2e2f465689265d2aa772b86790593b1c55e095af950b305bbdbb5b97", func := "pub-tetrapla/laws.FnPaMergeAgain", spec := "fnPaMergeAgain", recurses := true, named := ["pub-tetrapla/pub/jsonpatch.ErrExpectedObject", "pub-tetrapla/pub/jsonpatch.ErrInvalid", "pub-tetrapla/pub/jsonpatch.ErrMissing"], loops := true, apart := false, laid := [("pub-tetrapla/pub/jsonpatch.ErrMissing", laid_pub_tetrapla_pub_jsonpatch_ErrMissing), ("pub-tetrapla/pub/jsonpatch.ErrInvalid", laid_pub_tetrapla_pub_jsonpatch_ErrInvalid), ("pub-tetrapla/pub/jsonpatch.ErrExpectedObject", laid_pub_tetrapla_pub_jsonpatch_ErrExpectedObject)] }
def FnPaMergeAgainSaid : Prop := fnPaMergeAgainRow.holds Tryd.pinned (OpenSpec.ofChange fnPaMergeAgainSpec)

/-- ITS FALSE NEIGHBOUR: 'it returns false'. Refute it at one input. -/
def fnPaMergeAgainWrong : ChangeSpec := { name := "fnPaMergeAgain", fn := fun _ => fun
  | [d1, d2] => { results := [.lit (.bool false)], args := [d1, d2] }
  | _ => none }
def FnPaMergeAgainWrongFalsely : Prop := fnPaMergeAgainRow.holds Tryd.pinned (OpenSpec.ofChange fnPaMergeAgainWrong)

/-- 'laws.FnJqPathParts': WHATEVER THE INPUT: true; the input reads as it did. -/
def fnJqPathPartsSpec : ChangeSpec := { name := "fnJqPathParts", fn := fun _ => fun
  | [d] => { results := [.lit (.bool true)], args := [d] }
  | _ => none }
def fnJqPathPartsRow : OpenClaim := { program := "ytnidncohhinjbaadoor", sum := "f36e6fcb2e2f465689265d2aa772b86790593b1c55e095af950b305bbdbb5b97", func := "pub-tetrapla/laws.FnJqPathParts", spec := "fnJqPathParts", inPlace := ["internal/bytealg.IndexByteString", "internal/bytealg.IndexByte"], named := ["pub-tetrapla/pub/jsonparser.errEmptyPath", "pub-tetrapla/pub/jsonparser.errMalformedPath", "pub-tetrapla/pub/jsonparser.errUnterminatedKey", "pub-tetrapla/pub/jsonparser.DefaultConfig", "pub-tetrapla/pub/jsonparser.MalformedStringEscapeError", "pub-tetrapla/pub/jsonparser.backslashCharEscapeTable"], apart := false, laid := [("pub-tetrapla/pub/jsonparser.DefaultConfig", laid_pub_tetrapla_pub_jsonparser_DefaultConfig), ("pub-tetrapla/pub/jsonparser.backslashCharEscapeTable", laid_pub_tetrapla_pub_jsonparser_backslashCharEscapeTable), ("pub-tetrapla/pub/jsonparser.MalformedStringEscapeError", laid_pub_tetrapla_pub_jsonparser_MalformedStringEscapeError), ("pub-tetrapla/pub/jsonparser.errEmptyPath", laid_pub_tetrapla_pub_jsonparser_errEmptyPath), ("pub-tetrapla/pub/jsonparser.errMalformedPath", laid_pub_tetrapla_pub_jsonparser_errMalformedPath), ("pub-tetrapla/pub/jsonparser.errUnterminatedKey", laid_pub_tetrapla_pub_jsonparser_errUnterminatedKey)] }
def FnJqPathPartsSaid : Prop := fnJqPathPartsRow.holds Tryd.pinned (OpenSpec.ofChange fnJqPathPartsSpec)

/-- ITS FALSE NEIGHBOUR: 'it returns false'. Refute it at one input. -/
def fnJqPathPartsWrong : ChangeSpec := { name := "fnJqPathParts", fn := fun _ => fun
  | [d] => { results := [.lit (.bool false)], args := [d] }
  | _ => none }
def FnJqPathPartsWrongFalsely : Prop := fnJqPathPartsRow.holds Tryd.pinned (OpenSpec.ofChange fnJqPathPartsWrong)

/-- 'laws.FnFfUint64Best': WHATEVER THE INPUT: true; the input reads as it did. -/
def fnFfUint64BestSpec : ChangeSpec := { name := "fnFfUint64Best", fn := fun _ => fun
  | [d] => { results := [.lit (.bool true)], args := [d] }
  | _ => none }
def fnFfUint64BestRow : OpenClaim := { program := "ytnidncohhinjbaadoor", sum := "f36e6fcb2e2f465689265d2aa772b86790593b1c55e095af950b305bbdbb5b97", func := "pub-tetrapla/laws.FnFfUint64Best", spec := "fnFfUint64Best", named := ["strconv.ErrSyntax", "strconv.ErrRange", "internal/strconv.uint64pow10", "math/bits.deBruijn32tab", "math/bits.deBruijn64tab"], apart := false, laid := [("math/bits.deBruijn32tab", laid_math_bits_deBruijn32tab), ("math/bits.deBruijn64tab", laid_math_bits_deBruijn64tab), ("internal/strconv.uint64pow10", laid_internal_strconv_uint64pow10), ("strconv.ErrRange", laid_strconv_ErrRange), ("strconv.ErrSyntax", laid_strconv_ErrSyntax)] }
def FnFfUint64BestSaid : Prop := fnFfUint64BestRow.holds Tryd.pinned (OpenSpec.ofChange fnFfUint64BestSpec)

/-- ITS FALSE NEIGHBOUR: 'it returns false'. Refute it at one input. -/
def fnFfUint64BestWrong : ChangeSpec := { name := "fnFfUint64Best", fn := fun _ => fun
  | [d] => { results := [.lit (.bool false)], args := [d] }
  | _ => none }
def FnFfUint64BestWrongFalsely : Prop := fnFfUint64BestRow.holds Tryd.pinned (OpenSpec.ofChange fnFfUint64BestWrong)

/-- 'laws.FnFjCheckElements': WHATEVER THE INPUT: true; the input reads as it did. -/
def fnFjCheckElementsSpec : ChangeSpec := { name := "fnFjCheckElements", fn := fun _ => fun
  | [d] => { results := [.lit (.bool true)], args := [d] }
  | _ => none }
def fnFjCheckElementsRow : OpenClaim := { program := "ytnidncohhinjbaadoor", sum := "f36e6fcb2e2f465689265d2aa772b86790593b1c55e095af950b305bbdbb5b97", func := "pub-tetrapla/laws.FnFjCheckElements", spec := "fnFjCheckElements", inPlace := ["internal/bytealg.IndexByteString"], recurses := true, named := ["strconv.ErrSyntax", "strconv.ErrRange", "internal/strconv.uint64pow10", "math/bits.deBruijn32tab", "math/bits.deBruijn64tab"], apart := false, laid := [("math/bits.deBruijn32tab", laid_math_bits_deBruijn32tab), ("math/bits.deBruijn64tab", laid_math_bits_deBruijn64tab), ("internal/strconv.uint64pow10", laid_internal_strconv_uint64pow10), ("strconv.ErrRange", laid_strconv_ErrRange), ("strconv.ErrSyntax", laid_strconv_ErrSyntax)] }
def FnFjCheckElementsSaid : Prop := fnFjCheckElementsRow.holds Tryd.pinned (OpenSpec.ofChange fnFjCheckElementsSpec)

/-- ITS FALSE NEIGHBOUR: 'it returns false'. Refute it at one input. -/
def fnFjCheckElementsWrong : ChangeSpec := { name := "fnFjCheckElements", fn := fun _ => fun
  | [d] => { results := [.lit (.bool false)], args := [d] }
  | _ => none }
def FnFjCheckElementsWrongFalsely : Prop := fnFjCheckElementsRow.holds Tryd.pinned (OpenSpec.ofChange fnFjCheckElementsWrong)

/- THE SECOND FORM. 'bulk': how many values and letters a reading holds, each counted each time it is reached (what is shared counts as often as it is met; a slice's spare places count too). A statement '..UptoSaid' is the law's where the arguments, and the package variables that the reading takes, are together of bulk at most 1048576: NARROWER than '..Said'. Prove '..Said' where nothing that the law and all that it calls make is longer than what came in: it says more and counts as full. Else prove '..UptoSaid'. A law counts once. -/
mutual
def uptoBulk {H : Type} : DataW H → Nat
  | .lit (.string bytes) => bytes.length + 1
  | .lit _ => 1
  | .nil => 1
  | .ptr d => uptoBulk d + 1
  | .slice elems spare => uptoBulkAll elems + uptoBulkAll spare + 1
  | .agg parts => uptoBulkAll parts + 1
  | .iface _ d => uptoBulk d + 1
  | .map entries => uptoBulkEntries entries + 1
  | .held _ => 1
def uptoBulkAll {H : Type} : List (DataW H) → Nat
  | [] => 0
  | d :: r => uptoBulk d + uptoBulkAll r
def uptoBulkEntries {H : Type} : List (Lit × DataW H) → Nat
  | [] => 0
  | x :: r => uptoBulkEntry x + uptoBulkEntries r
def uptoBulkEntry {H : Type} : Lit × DataW H → Nat
  | (.string bytes, d) => bytes.length + uptoBulk d + 1
  | (_, d) => uptoBulk d + 1
 end
def uptoSmall : (H : Type) → List (DataW H) → Bool := fun _ ds => decide (uptoBulkAll ds ≤ 1048576)
def OpenSpec.upto (s : _root_.Go.ChangeSpec) : _root_.Go.OpenSpec := { _root_.Go.OpenSpec.ofChange s with cond := some uptoSmall }

/-- 'laws.FnPaMergeAgain', WHERE WHAT IT READS IS OF BULK AT MOST 1048576: true; the input reads as it did. -/
def fnPaMergeAgainUptoRow : OpenClaim := { program := "ytnidncohhinjbaadoor", sum := "f36e6fcb2e2f465689265d2aa772b86790593b1c55e095af950b305bbdbb5b97", func := "pub-tetrapla/laws.FnPaMergeAgain", spec := "fnPaMergeAgain", recurses := true, named := ["pub-tetrapla/pub/jsonpatch.ErrExpectedObject", "pub-tetrapla/pub/jsonpatch.ErrInvalid", "pub-tetrapla/pub/jsonpatch.ErrMissing"], loops := true, apart := false, laid := [("pub-tetrapla/pub/jsonpatch.ErrMissing", laid_pub_tetrapla_pub_jsonpatch_ErrMissing), ("pub-tetrapla/pub/jsonpatch.ErrInvalid", laid_pub_tetrapla_pub_jsonpatch_ErrInvalid), ("pub-tetrapla/pub/jsonpatch.ErrExpectedObject", laid_pub_tetrapla_pub_jsonpatch_ErrExpectedObject)], narrowed := true }
def FnPaMergeAgainUptoSaid : Prop := fnPaMergeAgainUptoRow.holds Tryd.pinned (OpenSpec.upto fnPaMergeAgainSpec)

/-- 'laws.FnJqPathParts', WHERE WHAT IT READS IS OF BULK AT MOST 1048576: true; the input reads as it did. -/
def fnJqPathPartsUptoRow : OpenClaim := { program := "ytnidncohhinjbaadoor", sum := "f36e6fcb2e2f465689265d2aa772b86790593b1c55e095af950b305bbdbb5b97", func := "pub-tetrapla/laws.FnJqPathParts", spec := "fnJqPathParts", inPlace := ["internal/bytealg.IndexByteString", "internal/bytealg.IndexByte"], named := ["pub-tetrapla/pub/jsonparser.errEmptyPath", "pub-tetrapla/pub/jsonparser.errMalformedPath", "pub-tetrapla/pub/jsonparser.errUnterminatedKey", "pub-tetrapla/pub/jsonparser.DefaultConfig", "pub-tetrapla/pub/jsonparser.MalformedStringEscapeError", "pub-tetrapla/pub/jsonparser.backslashCharEscapeTable"], apart := false, laid := [("pub-tetrapla/pub/jsonparser.DefaultConfig", laid_pub_tetrapla_pub_jsonparser_DefaultConfig), ("pub-tetrapla/pub/jsonparser.backslashCharEscapeTable", laid_pub_tetrapla_pub_jsonparser_backslashCharEscapeTable), ("pub-tetrapla/pub/jsonparser.MalformedStringEscapeError", laid_pub_tetrapla_pub_jsonparser_MalformedStringEscapeError), ("pub-tetrapla/pub/jsonparser.errEmptyPath", laid_pub_tetrapla_pub_jsonparser_errEmptyPath), ("pub-tetrapla/pub/jsonparser.errMalformedPath", laid_pub_tetrapla_pub_jsonparser_errMalformedPath), ("pub-tetrapla/pub/jsonparser.errUnterminatedKey", laid_pub_tetrapla_pub_jsonparser_errUnterminatedKey)], narrowed := true }
def FnJqPathPartsUptoSaid : Prop := fnJqPathPartsUptoRow.holds Tryd.pinned (OpenSpec.upto fnJqPathPartsSpec)

/-- 'laws.FnFfUint64Best', WHERE WHAT IT READS IS OF BULK AT MOST 1048576: true; the input reads as it did. -/
def fnFfUint64BestUptoRow : OpenClaim := { program := "ytnidncohhinjbaadoor", sum := "f36e6fcb2e2f465689265d2aa772b86790593b1c55e095af950b305bbdbb5b97", func := "pub-tetrapla/laws.FnFfUint64Best", spec := "fnFfUint64Best", named := ["strconv.ErrSyntax", "strconv.ErrRange", "internal/strconv.uint64pow10", "math/bits.deBruijn32tab", "math/bits.deBruijn64tab"], apart := false, laid := [("math/bits.deBruijn32tab", laid_math_bits_deBruijn32tab), ("math/bits.deBruijn64tab", laid_math_bits_deBruijn64tab), ("internal/strconv.uint64pow10", laid_internal_strconv_uint64pow10), ("strconv.ErrRange", laid_strconv_ErrRange), ("strconv.ErrSyntax", laid_strconv_ErrSyntax)], narrowed := true }
def FnFfUint64BestUptoSaid : Prop := fnFfUint64BestUptoRow.holds Tryd.pinned (OpenSpec.upto fnFfUint64BestSpec)

/-- 'laws.FnFjCheckElements', WHERE WHAT IT READS IS OF BULK AT MOST 1048576: true; the input reads as it did. -/
def fnFjCheckElementsUptoRow : OpenClaim := { program := "ytnidncohhinjbaadoor", sum := "f36e6fcb2e2f465689265d2aa772b86790593b1c55e095af950b305bbdbb5b97", func := "pub-tetrapla/laws.FnFjCheckElements", spec := "fnFjCheckElements", inPlace := ["internal/bytealg.IndexByteString"], recurses := true, named := ["strconv.ErrSyntax", "strconv.ErrRange", "internal/strconv.uint64pow10", "math/bits.deBruijn32tab", "math/bits.deBruijn64tab"], apart := false, laid := [("math/bits.deBruijn32tab", laid_math_bits_deBruijn32tab), ("math/bits.deBruijn64tab", laid_math_bits_deBruijn64tab), ("internal/strconv.uint64pow10", laid_internal_strconv_uint64pow10), ("strconv.ErrRange", laid_strconv_ErrRange), ("strconv.ErrSyntax", laid_strconv_ErrSyntax)], narrowed := true }
def FnFjCheckElementsUptoSaid : Prop := fnFjCheckElementsUptoRow.holds Tryd.pinned (OpenSpec.upto fnFjCheckElementsSpec)

end Rows
end Go.Proofs.YtnidncohhinjbaaDoor
