/-
  DERIVED. GIVEN WITH THE SEED: THE PROGRAM's TIES (one call each: nine closed facts by the kernel) AND EACH ROW's TIE, after the 31st guide's Derived/Test/Toyas{Tie, Card}.lean. No idea stands in it: it is a product of the set-up. Laid BY PROGRAM, IN A SANDBOX (cutbox-door.mjs). By AI agents, Wed Nov 11 2026. No macro, syntax, notation, axiom, sorry.
-/
import Derived.Test.YtfmllmlloekojaaDoorRows
import Derived.LaidByTextLater
import Derived.SevenTiedAt
import Derived.LaidSub
import Derived.LaidOnce
namespace Go.Proofs.YtfmllmlloekojaaDoor
open Go
set_option maxRecDepth 100000
theorem seatTie1 : Tryd.prog.laidByTextLater [("math/bits.deBruijn32tab", Rows.laid_math_bits_deBruijn32tab), ("math/bits.deBruijn64tab", Rows.laid_math_bits_deBruijn64tab), ("internal/strconv.uint64pow10", Rows.laid_internal_strconv_uint64pow10), ("unicode/utf8.acceptRanges", Rows.laid_unicode_utf8_acceptRanges), ("strconv.ErrRange", Rows.laid_strconv_ErrRange), ("strconv.ErrSyntax", Rows.laid_strconv_ErrSyntax)] [.data, .data, .data, .data, .sentinel, .sentinel] true :=
  Program.laidByTextLater_by_one 329 8 118 (by kernel_rfl) (by kernel_rfl) (by kernel_rfl) (by kernel_rfl) (by kernel_rfl) (by kernel_rfl) (fun _ _ => by kernel_rfl)
theorem seatTie2 : Tryd.prog.laidByTextLater [("pub-tetrapla/pub/jsonparser.DefaultConfig", Rows.laid_pub_tetrapla_pub_jsonparser_DefaultConfig), ("pub-tetrapla/pub/jsonparser.backslashCharEscapeTable", Rows.laid_pub_tetrapla_pub_jsonparser_backslashCharEscapeTable), ("pub-tetrapla/pub/jsonparser.KeyPathNotFoundError", Rows.laid_pub_tetrapla_pub_jsonparser_KeyPathNotFoundError), ("pub-tetrapla/pub/jsonparser.UnknownValueTypeError", Rows.laid_pub_tetrapla_pub_jsonparser_UnknownValueTypeError), ("pub-tetrapla/pub/jsonparser.MalformedJsonError", Rows.laid_pub_tetrapla_pub_jsonparser_MalformedJsonError), ("pub-tetrapla/pub/jsonparser.MalformedStringError", Rows.laid_pub_tetrapla_pub_jsonparser_MalformedStringError), ("pub-tetrapla/pub/jsonparser.MalformedArrayError", Rows.laid_pub_tetrapla_pub_jsonparser_MalformedArrayError), ("pub-tetrapla/pub/jsonparser.MalformedObjectError", Rows.laid_pub_tetrapla_pub_jsonparser_MalformedObjectError), ("pub-tetrapla/pub/jsonparser.MalformedValueError", Rows.laid_pub_tetrapla_pub_jsonparser_MalformedValueError), ("pub-tetrapla/pub/jsonparser.OverflowIntegerError", Rows.laid_pub_tetrapla_pub_jsonparser_OverflowIntegerError), ("pub-tetrapla/pub/jsonparser.MalformedStringEscapeError", Rows.laid_pub_tetrapla_pub_jsonparser_MalformedStringEscapeError), ("pub-tetrapla/pub/jsonparser.NullValueError", Rows.laid_pub_tetrapla_pub_jsonparser_NullValueError), ("pub-tetrapla/pub/jsonparser.errEmptyPath", Rows.laid_pub_tetrapla_pub_jsonparser_errEmptyPath), ("pub-tetrapla/pub/jsonparser.errMalformedPath", Rows.laid_pub_tetrapla_pub_jsonparser_errMalformedPath), ("pub-tetrapla/pub/jsonparser.errUnterminatedKey", Rows.laid_pub_tetrapla_pub_jsonparser_errUnterminatedKey)] [.data, .data, .sentinel, .sentinel, .sentinel, .sentinel, .sentinel, .sentinel, .sentinel, .sentinel, .sentinel, .sentinel, .sentinel, .sentinel, .sentinel] true :=
  Program.laidByTextLater_by_one 329 8 118 (by kernel_rfl) (by kernel_rfl) (by kernel_rfl) (by kernel_rfl) (by kernel_rfl) (by kernel_rfl) (fun _ _ => by kernel_rfl)
theorem pin_laid_unicode_utf8_first : Tryd.pinned.checked.prog.pinnedFits "unicode/utf8.first" = true := by kernel_rfl
theorem noOwnUnsafe : Tryd.pinned.checked.prog.headLifts.contains "ownunsafe" = false := by kernel_rfl
theorem tie : Tryd.prog.laidByTextLater [("math/bits.deBruijn32tab", Rows.laid_math_bits_deBruijn32tab), ("math/bits.deBruijn64tab", Rows.laid_math_bits_deBruijn64tab), ("internal/strconv.uint64pow10", Rows.laid_internal_strconv_uint64pow10), ("strconv.ErrRange", Rows.laid_strconv_ErrRange), ("strconv.ErrSyntax", Rows.laid_strconv_ErrSyntax)] [.data, .data, .data, .sentinel, .sentinel] true :=
  Program.laidByTextLater.sub seatTie1 ["math/bits.deBruijn32tab", "math/bits.deBruijn64tab", "internal/strconv.uint64pow10", "strconv.ErrRange", "strconv.ErrSyntax"] (by kernel_rfl) (by kernel_rfl)
theorem fnFjRawStringOf_row_tie : Rows.fnFjRawStringOfRow.laidByTextAt .later Tryd.pinned [.data, .data, .data, .sentinel, .sentinel] true :=
  OpenClaim.laidByTextAt_later rfl rfl tie noOwnUnsafe
theorem fnFjCheckMembers_row_tie : Rows.fnFjCheckMembersRow.laidByTextAt .later Tryd.pinned [.data, .data, .data, .sentinel, .sentinel] true :=
  OpenClaim.laidByTextAt_later rfl rfl tie noOwnUnsafe
theorem tie2 : Tryd.prog.laidByTextLater [("pub-tetrapla/pub/jsonparser.DefaultConfig", Rows.laid_pub_tetrapla_pub_jsonparser_DefaultConfig), ("pub-tetrapla/pub/jsonparser.backslashCharEscapeTable", Rows.laid_pub_tetrapla_pub_jsonparser_backslashCharEscapeTable), ("pub-tetrapla/pub/jsonparser.KeyPathNotFoundError", Rows.laid_pub_tetrapla_pub_jsonparser_KeyPathNotFoundError), ("pub-tetrapla/pub/jsonparser.UnknownValueTypeError", Rows.laid_pub_tetrapla_pub_jsonparser_UnknownValueTypeError), ("pub-tetrapla/pub/jsonparser.MalformedJsonError", Rows.laid_pub_tetrapla_pub_jsonparser_MalformedJsonError), ("pub-tetrapla/pub/jsonparser.MalformedStringError", Rows.laid_pub_tetrapla_pub_jsonparser_MalformedStringError), ("pub-tetrapla/pub/jsonparser.MalformedArrayError", Rows.laid_pub_tetrapla_pub_jsonparser_MalformedArrayError), ("pub-tetrapla/pub/jsonparser.MalformedObjectError", Rows.laid_pub_tetrapla_pub_jsonparser_MalformedObjectError), ("pub-tetrapla/pub/jsonparser.MalformedValueError", Rows.laid_pub_tetrapla_pub_jsonparser_MalformedValueError), ("pub-tetrapla/pub/jsonparser.OverflowIntegerError", Rows.laid_pub_tetrapla_pub_jsonparser_OverflowIntegerError), ("pub-tetrapla/pub/jsonparser.MalformedStringEscapeError", Rows.laid_pub_tetrapla_pub_jsonparser_MalformedStringEscapeError), ("pub-tetrapla/pub/jsonparser.NullValueError", Rows.laid_pub_tetrapla_pub_jsonparser_NullValueError), ("pub-tetrapla/pub/jsonparser.errEmptyPath", Rows.laid_pub_tetrapla_pub_jsonparser_errEmptyPath), ("pub-tetrapla/pub/jsonparser.errMalformedPath", Rows.laid_pub_tetrapla_pub_jsonparser_errMalformedPath), ("pub-tetrapla/pub/jsonparser.errUnterminatedKey", Rows.laid_pub_tetrapla_pub_jsonparser_errUnterminatedKey)] [.data, .data, .sentinel, .sentinel, .sentinel, .sentinel, .sentinel, .sentinel, .sentinel, .sentinel, .sentinel, .sentinel, .sentinel, .sentinel, .sentinel] true :=
  Program.laidByTextLater.sub seatTie2 ["pub-tetrapla/pub/jsonparser.DefaultConfig", "pub-tetrapla/pub/jsonparser.backslashCharEscapeTable", "pub-tetrapla/pub/jsonparser.KeyPathNotFoundError", "pub-tetrapla/pub/jsonparser.UnknownValueTypeError", "pub-tetrapla/pub/jsonparser.MalformedJsonError", "pub-tetrapla/pub/jsonparser.MalformedStringError", "pub-tetrapla/pub/jsonparser.MalformedArrayError", "pub-tetrapla/pub/jsonparser.MalformedObjectError", "pub-tetrapla/pub/jsonparser.MalformedValueError", "pub-tetrapla/pub/jsonparser.OverflowIntegerError", "pub-tetrapla/pub/jsonparser.MalformedStringEscapeError", "pub-tetrapla/pub/jsonparser.NullValueError", "pub-tetrapla/pub/jsonparser.errEmptyPath", "pub-tetrapla/pub/jsonparser.errMalformedPath", "pub-tetrapla/pub/jsonparser.errUnterminatedKey"] (by kernel_rfl) (by kernel_rfl)
theorem fnJrPath_row_tie : Rows.fnJrPathRow.laidByTextAt .later Tryd.pinned [.data, .data, .sentinel, .sentinel, .sentinel, .sentinel, .sentinel, .sentinel, .sentinel, .sentinel, .sentinel, .sentinel, .sentinel, .sentinel, .sentinel] true :=
  OpenClaim.laidByTextAt_later rfl rfl tie2 noOwnUnsafe
theorem fits3 : Tryd.pinned.checked.prog.listedFits [("unicode/utf8.acceptRanges", Rows.laid_unicode_utf8_acceptRanges), ("unicode/utf8.first", Rows.laid_unicode_utf8_first)] = true := by
  unfold Program.listedFits
  rw [noOwnUnsafe]
  kernel_rfl
theorem tie3 : Tryd.prog.laidByTextLater [("unicode/utf8.acceptRanges", Rows.laid_unicode_utf8_acceptRanges)] [.data] true :=
  Program.laidByTextLater.sub seatTie1 ["unicode/utf8.acceptRanges"] (by kernel_rfl) (by kernel_rfl)
theorem fnSjBuildDeep_row_tie : Rows.fnSjBuildDeepRow.laidByTextAt .later Tryd.pinned [.data, .pinned] true :=
  OpenClaim.laidByTextAt_pinned rfl rfl tie3 rfl rfl rfl rfl (fun y hy _e => by
    simp only [Rows.fnSjBuildDeepRow, List.zip_cons_cons, List.zip_nil_right, List.mem_cons, List.mem_nil_iff, or_false] at hy
    rcases hy with rfl | rfl
    · cases _e
    · exact ⟨pin_laid_unicode_utf8_first, by kernel_rfl⟩) fits3
theorem fnFjRawStringOfUpto_row_tie : Rows.fnFjRawStringOfUptoRow.laidByTextAt .later Tryd.pinned [.data, .data, .data, .sentinel, .sentinel] true :=
  OpenClaim.laidByTextAt_later rfl rfl tie noOwnUnsafe
theorem fnFjCheckMembersUpto_row_tie : Rows.fnFjCheckMembersUptoRow.laidByTextAt .later Tryd.pinned [.data, .data, .data, .sentinel, .sentinel] true :=
  OpenClaim.laidByTextAt_later rfl rfl tie noOwnUnsafe
theorem fnJrPathUpto_row_tie : Rows.fnJrPathUptoRow.laidByTextAt .later Tryd.pinned [.data, .data, .sentinel, .sentinel, .sentinel, .sentinel, .sentinel, .sentinel, .sentinel, .sentinel, .sentinel, .sentinel, .sentinel, .sentinel, .sentinel] true :=
  OpenClaim.laidByTextAt_later rfl rfl tie2 noOwnUnsafe
theorem fnSjBuildDeepUpto_row_tie : Rows.fnSjBuildDeepUptoRow.laidByTextAt .later Tryd.pinned [.data, .pinned] true :=
  OpenClaim.laidByTextAt_pinned rfl rfl tie3 rfl rfl rfl rfl (fun y hy _e => by
    simp only [Rows.fnSjBuildDeepUptoRow, List.zip_cons_cons, List.zip_nil_right, List.mem_cons, List.mem_nil_iff, or_false] at hy
    rcases hy with rfl | rfl
    · cases _e
    · exact ⟨pin_laid_unicode_utf8_first, by kernel_rfl⟩) fits3
end Go.Proofs.YtfmllmlloekojaaDoor
