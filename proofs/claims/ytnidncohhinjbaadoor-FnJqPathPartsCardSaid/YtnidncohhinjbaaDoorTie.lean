/-
  DERIVED. GIVEN WITH THE SEED: THE PROGRAM's TIES (one call each: nine closed facts by the kernel) AND EACH ROW's TIE, after the 31st guide's Derived/Test/Toyas{Tie, Card}.lean. No idea stands in it: it is a product of the set-up. Laid BY PROGRAM, IN A SANDBOX (cutbox-door.mjs). By AI agents, Wed Nov 11 2026. No macro, syntax, notation, axiom, sorry.
-/
import Derived.Test.YtnidncohhinjbaaDoorRows
import Derived.LaidByTextLater
import Derived.SevenTiedAt
import Derived.LaidSub
import Derived.LaidOnce
namespace Go.Proofs.YtnidncohhinjbaaDoor
open Go
set_option maxRecDepth 100000
theorem seatTie1 : Tryd.prog.laidByTextLater [("math/bits.deBruijn32tab", Rows.laid_math_bits_deBruijn32tab), ("math/bits.deBruijn64tab", Rows.laid_math_bits_deBruijn64tab), ("internal/strconv.uint64pow10", Rows.laid_internal_strconv_uint64pow10), ("strconv.ErrRange", Rows.laid_strconv_ErrRange), ("strconv.ErrSyntax", Rows.laid_strconv_ErrSyntax), ("pub-tetrapla/pub/jsonpatch.ErrMissing", Rows.laid_pub_tetrapla_pub_jsonpatch_ErrMissing), ("pub-tetrapla/pub/jsonpatch.ErrInvalid", Rows.laid_pub_tetrapla_pub_jsonpatch_ErrInvalid), ("pub-tetrapla/pub/jsonpatch.ErrExpectedObject", Rows.laid_pub_tetrapla_pub_jsonpatch_ErrExpectedObject), ("pub-tetrapla/pub/jsonparser.DefaultConfig", Rows.laid_pub_tetrapla_pub_jsonparser_DefaultConfig), ("pub-tetrapla/pub/jsonparser.backslashCharEscapeTable", Rows.laid_pub_tetrapla_pub_jsonparser_backslashCharEscapeTable), ("pub-tetrapla/pub/jsonparser.MalformedStringEscapeError", Rows.laid_pub_tetrapla_pub_jsonparser_MalformedStringEscapeError), ("pub-tetrapla/pub/jsonparser.errEmptyPath", Rows.laid_pub_tetrapla_pub_jsonparser_errEmptyPath), ("pub-tetrapla/pub/jsonparser.errMalformedPath", Rows.laid_pub_tetrapla_pub_jsonparser_errMalformedPath), ("pub-tetrapla/pub/jsonparser.errUnterminatedKey", Rows.laid_pub_tetrapla_pub_jsonparser_errUnterminatedKey)] [.data, .data, .data, .sentinel, .sentinel, .sentinel, .sentinel, .sentinel, .data, .data, .sentinel, .sentinel, .sentinel, .sentinel] true :=
  Program.laidByTextLater_by_one 205 8 118 (by kernel_rfl) (by kernel_rfl) (by kernel_rfl) (by kernel_rfl) (by kernel_rfl) (by kernel_rfl) (fun _ _ => by kernel_rfl)
theorem noOwnUnsafe : Tryd.pinned.checked.prog.headLifts.contains "ownunsafe" = false := by kernel_rfl
theorem tie : Tryd.prog.laidByTextLater [("pub-tetrapla/pub/jsonpatch.ErrMissing", Rows.laid_pub_tetrapla_pub_jsonpatch_ErrMissing), ("pub-tetrapla/pub/jsonpatch.ErrInvalid", Rows.laid_pub_tetrapla_pub_jsonpatch_ErrInvalid), ("pub-tetrapla/pub/jsonpatch.ErrExpectedObject", Rows.laid_pub_tetrapla_pub_jsonpatch_ErrExpectedObject)] [.sentinel, .sentinel, .sentinel] true :=
  Program.laidByTextLater.sub seatTie1 ["pub-tetrapla/pub/jsonpatch.ErrMissing", "pub-tetrapla/pub/jsonpatch.ErrInvalid", "pub-tetrapla/pub/jsonpatch.ErrExpectedObject"] (by kernel_rfl) (by kernel_rfl)
theorem fnPaMergeAgain_row_tie : Rows.fnPaMergeAgainRow.laidByTextAt .later Tryd.pinned [.sentinel, .sentinel, .sentinel] true :=
  OpenClaim.laidByTextAt_later rfl rfl tie noOwnUnsafe
theorem tie2 : Tryd.prog.laidByTextLater [("pub-tetrapla/pub/jsonparser.DefaultConfig", Rows.laid_pub_tetrapla_pub_jsonparser_DefaultConfig), ("pub-tetrapla/pub/jsonparser.backslashCharEscapeTable", Rows.laid_pub_tetrapla_pub_jsonparser_backslashCharEscapeTable), ("pub-tetrapla/pub/jsonparser.MalformedStringEscapeError", Rows.laid_pub_tetrapla_pub_jsonparser_MalformedStringEscapeError), ("pub-tetrapla/pub/jsonparser.errEmptyPath", Rows.laid_pub_tetrapla_pub_jsonparser_errEmptyPath), ("pub-tetrapla/pub/jsonparser.errMalformedPath", Rows.laid_pub_tetrapla_pub_jsonparser_errMalformedPath), ("pub-tetrapla/pub/jsonparser.errUnterminatedKey", Rows.laid_pub_tetrapla_pub_jsonparser_errUnterminatedKey)] [.data, .data, .sentinel, .sentinel, .sentinel, .sentinel] true :=
  Program.laidByTextLater.sub seatTie1 ["pub-tetrapla/pub/jsonparser.DefaultConfig", "pub-tetrapla/pub/jsonparser.backslashCharEscapeTable", "pub-tetrapla/pub/jsonparser.MalformedStringEscapeError", "pub-tetrapla/pub/jsonparser.errEmptyPath", "pub-tetrapla/pub/jsonparser.errMalformedPath", "pub-tetrapla/pub/jsonparser.errUnterminatedKey"] (by kernel_rfl) (by kernel_rfl)
theorem fnJqPathParts_row_tie : Rows.fnJqPathPartsRow.laidByTextAt .later Tryd.pinned [.data, .data, .sentinel, .sentinel, .sentinel, .sentinel] true :=
  OpenClaim.laidByTextAt_later rfl rfl tie2 noOwnUnsafe
theorem tie3 : Tryd.prog.laidByTextLater [("math/bits.deBruijn32tab", Rows.laid_math_bits_deBruijn32tab), ("math/bits.deBruijn64tab", Rows.laid_math_bits_deBruijn64tab), ("internal/strconv.uint64pow10", Rows.laid_internal_strconv_uint64pow10), ("strconv.ErrRange", Rows.laid_strconv_ErrRange), ("strconv.ErrSyntax", Rows.laid_strconv_ErrSyntax)] [.data, .data, .data, .sentinel, .sentinel] true :=
  Program.laidByTextLater.sub seatTie1 ["math/bits.deBruijn32tab", "math/bits.deBruijn64tab", "internal/strconv.uint64pow10", "strconv.ErrRange", "strconv.ErrSyntax"] (by kernel_rfl) (by kernel_rfl)
theorem fnFfUint64Best_row_tie : Rows.fnFfUint64BestRow.laidByTextAt .later Tryd.pinned [.data, .data, .data, .sentinel, .sentinel] true :=
  OpenClaim.laidByTextAt_later rfl rfl tie3 noOwnUnsafe
theorem fnFjCheckElements_row_tie : Rows.fnFjCheckElementsRow.laidByTextAt .later Tryd.pinned [.data, .data, .data, .sentinel, .sentinel] true :=
  OpenClaim.laidByTextAt_later rfl rfl tie3 noOwnUnsafe
theorem fnPaMergeAgainUpto_row_tie : Rows.fnPaMergeAgainUptoRow.laidByTextAt .later Tryd.pinned [.sentinel, .sentinel, .sentinel] true :=
  OpenClaim.laidByTextAt_later rfl rfl tie noOwnUnsafe
theorem fnJqPathPartsUpto_row_tie : Rows.fnJqPathPartsUptoRow.laidByTextAt .later Tryd.pinned [.data, .data, .sentinel, .sentinel, .sentinel, .sentinel] true :=
  OpenClaim.laidByTextAt_later rfl rfl tie2 noOwnUnsafe
theorem fnFfUint64BestUpto_row_tie : Rows.fnFfUint64BestUptoRow.laidByTextAt .later Tryd.pinned [.data, .data, .data, .sentinel, .sentinel] true :=
  OpenClaim.laidByTextAt_later rfl rfl tie3 noOwnUnsafe
theorem fnFjCheckElementsUpto_row_tie : Rows.fnFjCheckElementsUptoRow.laidByTextAt .later Tryd.pinned [.data, .data, .data, .sentinel, .sentinel] true :=
  OpenClaim.laidByTextAt_later rfl rfl tie3 noOwnUnsafe
end Go.Proofs.YtnidncohhinjbaaDoor
