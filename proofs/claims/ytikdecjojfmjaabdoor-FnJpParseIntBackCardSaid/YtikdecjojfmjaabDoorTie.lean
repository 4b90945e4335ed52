/-
  DERIVED. GIVEN WITH THE SEED: THE PROGRAM's TIES (one call each: nine closed facts by the kernel) AND EACH ROW's TIE, after the 31st guide's Derived/Test/Toyas{Tie, Card}.lean. No idea stands in it: it is a product of the set-up. Laid BY PROGRAM, IN A SANDBOX (cutbox-door.mjs). By AI agents, Wed Nov 11 2026. No macro, syntax, notation, axiom, sorry.
-/
import Derived.Test.YtikdecjojfmjaabDoorRows
import Derived.LaidByTextLater
import Derived.SevenTiedAt
import Derived.LaidSub
import Derived.LaidOnce
namespace Go.Proofs.YtikdecjojfmjaabDoor
open Go
set_option maxRecDepth 100000
theorem seatTie1 : Tryd.prog.laidByTextLater [("unicode/utf8.acceptRanges", Rows.laid_unicode_utf8_acceptRanges), ("pub-tetrapla/pub/match.maxRuneBytes", Rows.laid_pub_tetrapla_pub_match_maxRuneBytes), ("pub-tetrapla/pub/jsonpatch.ErrMissing", Rows.laid_pub_tetrapla_pub_jsonpatch_ErrMissing), ("pub-tetrapla/pub/jsonpatch.ErrInvalid", Rows.laid_pub_tetrapla_pub_jsonpatch_ErrInvalid), ("pub-tetrapla/pub/jsonpatch.ErrExpectedObject", Rows.laid_pub_tetrapla_pub_jsonpatch_ErrExpectedObject), ("pub-tetrapla/pub/jsonparser.DefaultConfig", Rows.laid_pub_tetrapla_pub_jsonparser_DefaultConfig), ("pub-tetrapla/pub/jsonparser.MalformedValueError", Rows.laid_pub_tetrapla_pub_jsonparser_MalformedValueError), ("pub-tetrapla/pub/jsonparser.OverflowIntegerError", Rows.laid_pub_tetrapla_pub_jsonparser_OverflowIntegerError)] [.data, .widerDeep, .sentinel, .sentinel, .sentinel, .data, .sentinel, .sentinel] true :=
  Program.laidByTextLater_by_one 124 8 33 (by kernel_rfl) (by kernel_rfl) (by kernel_rfl) (by kernel_rfl) (by kernel_rfl) (by kernel_rfl) (fun _ _ => by kernel_rfl)
theorem pin_laid_unicode_utf8_first : Tryd.pinned.checked.prog.pinnedFits "unicode/utf8.first" = true := by kernel_rfl
theorem noOwnUnsafe : Tryd.pinned.checked.prog.headLifts.contains "ownunsafe" = false := by kernel_rfl
theorem tie : Tryd.prog.laidByTextLater [("pub-tetrapla/pub/jsonparser.MalformedValueError", Rows.laid_pub_tetrapla_pub_jsonparser_MalformedValueError), ("pub-tetrapla/pub/jsonparser.OverflowIntegerError", Rows.laid_pub_tetrapla_pub_jsonparser_OverflowIntegerError)] [.sentinel, .sentinel] true :=
  Program.laidByTextLater.sub seatTie1 ["pub-tetrapla/pub/jsonparser.MalformedValueError", "pub-tetrapla/pub/jsonparser.OverflowIntegerError"] (by kernel_rfl) (by kernel_rfl)
theorem fnJpParseIntBack_row_tie : Rows.fnJpParseIntBackRow.laidByTextAt .later Tryd.pinned [.sentinel, .sentinel] true :=
  OpenClaim.laidByTextAt_later rfl rfl tie noOwnUnsafe
theorem tie2 : Tryd.prog.laidByTextLater [("pub-tetrapla/pub/jsonparser.DefaultConfig", Rows.laid_pub_tetrapla_pub_jsonparser_DefaultConfig)] [.data] true :=
  Program.laidByTextLater.sub seatTie1 ["pub-tetrapla/pub/jsonparser.DefaultConfig"] (by kernel_rfl) (by kernel_rfl)
theorem fnJpStringPlace_row_tie : Rows.fnJpStringPlaceRow.laidByTextAt .later Tryd.pinned [.data] true :=
  OpenClaim.laidByTextAt_later rfl rfl tie2 noOwnUnsafe
theorem fits3 : Tryd.pinned.checked.prog.listedFits [("unicode/utf8.acceptRanges", Rows.laid_unicode_utf8_acceptRanges), ("unicode/utf8.first", Rows.laid_unicode_utf8_first)] = true := by
  unfold Program.listedFits
  rw [noOwnUnsafe]
  kernel_rfl
theorem tie3 : Tryd.prog.laidByTextLater [("unicode/utf8.acceptRanges", Rows.laid_unicode_utf8_acceptRanges)] [.data] true :=
  Program.laidByTextLater.sub seatTie1 ["unicode/utf8.acceptRanges"] (by kernel_rfl) (by kernel_rfl)
theorem fnMtTrimSuffix_row_tie : Rows.fnMtTrimSuffixRow.laidByTextAt .later Tryd.pinned [.data, .pinned] true :=
  OpenClaim.laidByTextAt_pinned rfl rfl tie3 rfl rfl rfl rfl (fun y hy _e => by
    simp only [Rows.fnMtTrimSuffixRow, List.zip_cons_cons, List.zip_nil_right, List.mem_cons, List.mem_nil_iff, or_false] at hy
    rcases hy with rfl | rfl
    · cases _e
    · exact ⟨pin_laid_unicode_utf8_first, by kernel_rfl⟩) fits3
theorem fnSjBuildDeep_row_tie : Rows.fnSjBuildDeepRow.laidByTextAt .later Tryd.pinned [.data, .pinned] true :=
  OpenClaim.laidByTextAt_pinned rfl rfl tie3 rfl rfl rfl rfl (fun y hy _e => by
    simp only [Rows.fnSjBuildDeepRow, List.zip_cons_cons, List.zip_nil_right, List.mem_cons, List.mem_nil_iff, or_false] at hy
    rcases hy with rfl | rfl
    · cases _e
    · exact ⟨pin_laid_unicode_utf8_first, by kernel_rfl⟩) fits3
theorem fits4 : Tryd.pinned.checked.prog.listedFits [("unicode/utf8.acceptRanges", Rows.laid_unicode_utf8_acceptRanges), ("pub-tetrapla/pub/match.maxRuneBytes", Rows.laid_pub_tetrapla_pub_match_maxRuneBytes), ("unicode/utf8.first", Rows.laid_unicode_utf8_first)] = true := by
  unfold Program.listedFits
  rw [noOwnUnsafe]
  kernel_rfl
theorem tie4 : Tryd.prog.laidByTextLater [("unicode/utf8.acceptRanges", Rows.laid_unicode_utf8_acceptRanges), ("pub-tetrapla/pub/match.maxRuneBytes", Rows.laid_pub_tetrapla_pub_match_maxRuneBytes)] [.data, .widerDeep] true :=
  Program.laidByTextLater.sub seatTie1 ["unicode/utf8.acceptRanges", "pub-tetrapla/pub/match.maxRuneBytes"] (by kernel_rfl) (by kernel_rfl)
theorem fnMtAllowablePlain_row_tie : Rows.fnMtAllowablePlainRow.laidByTextAt .later Tryd.pinned [.data, .widerDeep, .pinned] true :=
  OpenClaim.laidByTextAt_pinned rfl rfl tie4 rfl rfl rfl rfl (fun y hy _e => by
    simp only [Rows.fnMtAllowablePlainRow, List.zip_cons_cons, List.zip_nil_right, List.mem_cons, List.mem_nil_iff, or_false] at hy
    rcases hy with rfl | rfl | rfl
    · cases _e
    · cases _e
    · exact ⟨pin_laid_unicode_utf8_first, by kernel_rfl⟩) fits4
theorem tie5 : Tryd.prog.laidByTextLater [("pub-tetrapla/pub/jsonpatch.ErrMissing", Rows.laid_pub_tetrapla_pub_jsonpatch_ErrMissing), ("pub-tetrapla/pub/jsonpatch.ErrInvalid", Rows.laid_pub_tetrapla_pub_jsonpatch_ErrInvalid), ("pub-tetrapla/pub/jsonpatch.ErrExpectedObject", Rows.laid_pub_tetrapla_pub_jsonpatch_ErrExpectedObject)] [.sentinel, .sentinel, .sentinel] true :=
  Program.laidByTextLater.sub seatTie1 ["pub-tetrapla/pub/jsonpatch.ErrMissing", "pub-tetrapla/pub/jsonpatch.ErrInvalid", "pub-tetrapla/pub/jsonpatch.ErrExpectedObject"] (by kernel_rfl) (by kernel_rfl)
theorem fnPaMergeBetween_row_tie : Rows.fnPaMergeBetweenRow.laidByTextAt .later Tryd.pinned [.sentinel, .sentinel, .sentinel] true :=
  OpenClaim.laidByTextAt_later rfl rfl tie5 noOwnUnsafe
theorem fnJpParseIntBackUpto_row_tie : Rows.fnJpParseIntBackUptoRow.laidByTextAt .later Tryd.pinned [.sentinel, .sentinel] true :=
  OpenClaim.laidByTextAt_later rfl rfl tie noOwnUnsafe
theorem fnJpStringPlaceUpto_row_tie : Rows.fnJpStringPlaceUptoRow.laidByTextAt .later Tryd.pinned [.data] true :=
  OpenClaim.laidByTextAt_later rfl rfl tie2 noOwnUnsafe
theorem fnMtTrimSuffixUpto_row_tie : Rows.fnMtTrimSuffixUptoRow.laidByTextAt .later Tryd.pinned [.data, .pinned] true :=
  OpenClaim.laidByTextAt_pinned rfl rfl tie3 rfl rfl rfl rfl (fun y hy _e => by
    simp only [Rows.fnMtTrimSuffixUptoRow, List.zip_cons_cons, List.zip_nil_right, List.mem_cons, List.mem_nil_iff, or_false] at hy
    rcases hy with rfl | rfl
    · cases _e
    · exact ⟨pin_laid_unicode_utf8_first, by kernel_rfl⟩) fits3
theorem fnMtAllowablePlainUpto_row_tie : Rows.fnMtAllowablePlainUptoRow.laidByTextAt .later Tryd.pinned [.data, .widerDeep, .pinned] true :=
  OpenClaim.laidByTextAt_pinned rfl rfl tie4 rfl rfl rfl rfl (fun y hy _e => by
    simp only [Rows.fnMtAllowablePlainUptoRow, List.zip_cons_cons, List.zip_nil_right, List.mem_cons, List.mem_nil_iff, or_false] at hy
    rcases hy with rfl | rfl | rfl
    · cases _e
    · cases _e
    · exact ⟨pin_laid_unicode_utf8_first, by kernel_rfl⟩) fits4
theorem fnSjBuildDeepUpto_row_tie : Rows.fnSjBuildDeepUptoRow.laidByTextAt .later Tryd.pinned [.data, .pinned] true :=
  OpenClaim.laidByTextAt_pinned rfl rfl tie3 rfl rfl rfl rfl (fun y hy _e => by
    simp only [Rows.fnSjBuildDeepUptoRow, List.zip_cons_cons, List.zip_nil_right, List.mem_cons, List.mem_nil_iff, or_false] at hy
    rcases hy with rfl | rfl
    · cases _e
    · exact ⟨pin_laid_unicode_utf8_first, by kernel_rfl⟩) fits3
theorem fnPaMergeBetweenUpto_row_tie : Rows.fnPaMergeBetweenUptoRow.laidByTextAt .later Tryd.pinned [.sentinel, .sentinel, .sentinel] true :=
  OpenClaim.laidByTextAt_later rfl rfl tie5 noOwnUnsafe
end Go.Proofs.YtikdecjojfmjaabDoor
