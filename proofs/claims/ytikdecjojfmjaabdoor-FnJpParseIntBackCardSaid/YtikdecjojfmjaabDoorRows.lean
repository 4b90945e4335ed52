/-
  NARROWER THAN 'FOR EVERY INPUT', by the rows' own cells (each row's printed sentence says how): FnJpParseIntBack: laid · FnJpStringPlace: laid · FnMtTrimSuffix: laid · FnMtAllowablePlain: laid · FnSjBuildDeep: laid · FnPaMergeBetween: loops, laid.
  DERIVED. THE GIVEN ROWS OF THIS SEAT. 6 by the template 'for every input the law returns true; each argument reads behind the call as it read before'; 0 by the template 'total and deterministic' (their statements: YtikdecjojfmjaabDoorTotals.lean).
  GIVEN WITH THE SEED: the statements are not yours to turn. If you find one false, say at which input.
  Laid BY PROGRAM, IN A SANDBOX (cutbox-rows.mjs): the forced cells as the released guide's own fill.sh prints them over the translation b84b44446a061f75… (all of the seat's roots in one cut). By AI agents, Wed Nov 11 2026. No macro, syntax, notation, axiom, sorry.
-/
import Derived.Test.YtikdecjojfmjaabDoorChecked
import GoSem.PinnedTables
import GoSem.Claim
import GoSem.ClaimJoined
import GoSem.ClaimMapViews
import Derived.JoinedTies
import Derived.KernelRfl
namespace Go.Proofs.YtikdecjojfmjaabDoor
/- THE CELL 'sum', in the pinned program and in every row, IS THE sha256 OF THE DUMP (.gsa) THAT YtikdecjojfmjaabDoorProg.lean LOADS. Nothing in Lean hashes anything: it is a label: what it is worth is what the hold of that sum in a sandbox is worth. -/
noncomputable def Tryd.pinned : Pinned := { name := "ytikdecjojfmjaabdoor", sum := "b84b44446a061f75a6a199971e0a5d59e1e59d8327384abbef262d9f643f7d8c", checked := Tryd.checked }
namespace Rows
def none {H : Type} : Left H := { results := [], args := [] }

/- WHAT THE LISTED PACKAGE-LEVEL VARIABLES READ AS WHEN THE CALL BEGINS. Each datum BY PROGRAM (the guide's laid-datum.mjs) off the statement by which the dump's own 'gosem.cut.vars' lays the variable. In a bare row this is a premise. The card (YtikdecjojfmjaabDoorCards.lean) ties it to the program's text. -/
def laid_pub_tetrapla_pub_jsonparser_MalformedValueError {H : Type} : DataW H := .iface "*errors.errorString" (.ptr (.agg [.lit (.string [86, 97, 108, 117, 101, 32, 108, 111, 111, 107, 115, 32, 108, 105, 107, 101, 32, 78, 117, 109, 98, 101, 114, 47, 66, 111, 111, 108, 101, 97, 110, 47, 78, 111, 110, 101, 44, 32, 98, 117, 116, 32, 99, 97, 110, 39, 116, 32, 102, 105, 110, 100, 32, 105, 116, 115, 32, 101, 110, 100, 58, 32, 39, 44, 39, 32, 111, 114, 32, 39, 125, 39, 32, 115, 121, 109, 98, 111, 108])]))
def laid_pub_tetrapla_pub_jsonparser_OverflowIntegerError {H : Type} : DataW H := .iface "*errors.errorString" (.ptr (.agg [.lit (.string [86, 97, 108, 117, 101, 32, 105, 115, 32, 110, 117, 109, 98, 101, 114, 44, 32, 98, 117, 116, 32, 111, 118, 101, 114, 102, 108, 111, 119, 101, 100, 32, 119, 104, 105, 108, 101, 32, 112, 97, 114, 115, 105, 110, 103])]))
def laid_pub_tetrapla_pub_jsonparser_DefaultConfig {H : Type} : DataW H := .agg [.lit (.bool false), .lit (.bool false), .lit (.int .i64 0)]
def laid_unicode_utf8_acceptRanges {H : Type} : DataW H := .agg [.agg [.lit (.int .u8 128), .lit (.int .u8 191)], .agg [.lit (.int .u8 160), .lit (.int .u8 191)], .agg [.lit (.int .u8 128), .lit (.int .u8 159)], .agg [.lit (.int .u8 144), .lit (.int .u8 191)], .agg [.lit (.int .u8 128), .lit (.int .u8 143)], .agg [.lit (.int .u8 0), .lit (.int .u8 0)], .agg [.lit (.int .u8 0), .lit (.int .u8 0)], .agg [.lit (.int .u8 0), .lit (.int .u8 0)], .agg [.lit (.int .u8 0), .lit (.int .u8 0)], .agg [.lit (.int .u8 0), .lit (.int .u8 0)], .agg [.lit (.int .u8 0), .lit (.int .u8 0)], .agg [.lit (.int .u8 0), .lit (.int .u8 0)], .agg [.lit (.int .u8 0), .lit (.int .u8 0)], .agg [.lit (.int .u8 0), .lit (.int .u8 0)], .agg [.lit (.int .u8 0), .lit (.int .u8 0)], .agg [.lit (.int .u8 0), .lit (.int .u8 0)]]
/-- One of Go's own tables, pinned by name: the form's constant. -/
def laid_unicode_utf8_first : DataW Unit := Go.Pinned.utf8First
def laid_pub_tetrapla_pub_match_maxRuneBytes {H : Type} : DataW H := .agg [.lit (.int .u8 244), .lit (.int .u8 143), .lit (.int .u8 191), .lit (.int .u8 191)]
def laid_pub_tetrapla_pub_jsonpatch_ErrMissing {H : Type} : DataW H := .iface "*errors.errorString" (.ptr (.agg [.lit (.string [109, 105, 115, 115, 105, 110, 103, 32, 118, 97, 108, 117, 101])]))
def laid_pub_tetrapla_pub_jsonpatch_ErrInvalid {H : Type} : DataW H := .iface "*errors.errorString" (.ptr (.agg [.lit (.string [105, 110, 118, 97, 108, 105, 100, 32, 115, 116, 97, 116, 101, 32, 100, 101, 116, 101, 99, 116, 101, 100])]))
def laid_pub_tetrapla_pub_jsonpatch_ErrExpectedObject {H : Type} : DataW H := .iface "*errors.errorString" (.ptr (.agg [.lit (.string [105, 110, 118, 97, 108, 105, 100, 32, 118, 97, 108, 117, 101, 44, 32, 101, 120, 112, 101, 99, 116, 101, 100, 32, 111, 98, 106, 101, 99, 116])]))

/-- 'laws.FnJpParseIntBack': WHATEVER THE INPUT: true; the input reads as it did. -/
def fnJpParseIntBackSpec : ChangeSpec := { name := "fnJpParseIntBack", fn := fun _ => fun
  | [d] => { results := [.lit (.bool true)], args := [d] }
  | _ => none }
def fnJpParseIntBackRow : OpenClaim := { program := "ytikdecjojfmjaabdoor", sum := "b84b44446a061f75a6a199971e0a5d59e1e59d8327384abbef262d9f643f7d8c", func := "pub-tetrapla/laws.FnJpParseIntBack", spec := "fnJpParseIntBack", named := ["pub-tetrapla/pub/jsonparser.OverflowIntegerError", "pub-tetrapla/pub/jsonparser.MalformedValueError"], apart := false, laid := [("pub-tetrapla/pub/jsonparser.MalformedValueError", laid_pub_tetrapla_pub_jsonparser_MalformedValueError), ("pub-tetrapla/pub/jsonparser.OverflowIntegerError", laid_pub_tetrapla_pub_jsonparser_OverflowIntegerError)] }
def FnJpParseIntBackSaid : Prop := fnJpParseIntBackRow.holds Tryd.pinned (OpenSpec.ofChange fnJpParseIntBackSpec)

/-- ITS FALSE NEIGHBOUR: 'it returns false'. Refute it at one input. -/
def fnJpParseIntBackWrong : ChangeSpec := { name := "fnJpParseIntBack", fn := fun _ => fun
  | [d] => { results := [.lit (.bool false)], args := [d] }
  | _ => none }
def FnJpParseIntBackWrongFalsely : Prop := fnJpParseIntBackRow.holds Tryd.pinned (OpenSpec.ofChange fnJpParseIntBackWrong)

/-- 'laws.FnJpStringPlace': WHATEVER THE INPUT: true; the input reads as it did. -/
def fnJpStringPlaceSpec : ChangeSpec := { name := "fnJpStringPlace", fn := fun _ => fun
  | [d] => { results := [.lit (.bool true)], args := [d] }
  | _ => none }
def fnJpStringPlaceRow : OpenClaim := { program := "ytikdecjojfmjaabdoor", sum := "b84b44446a061f75a6a199971e0a5d59e1e59d8327384abbef262d9f643f7d8c", func := "pub-tetrapla/laws.FnJpStringPlace", spec := "fnJpStringPlace", recurses := true, named := ["pub-tetrapla/pub/jsonparser.DefaultConfig", "encoding/binary.LittleEndian"], apart := false, laid := [("pub-tetrapla/pub/jsonparser.DefaultConfig", laid_pub_tetrapla_pub_jsonparser_DefaultConfig)] }
def FnJpStringPlaceSaid : Prop := fnJpStringPlaceRow.holds Tryd.pinned (OpenSpec.ofChange fnJpStringPlaceSpec)

/-- ITS FALSE NEIGHBOUR: 'it returns false'. Refute it at one input. -/
def fnJpStringPlaceWrong : ChangeSpec := { name := "fnJpStringPlace", fn := fun _ => fun
  | [d] => { results := [.lit (.bool false)], args := [d] }
  | _ => none }
def FnJpStringPlaceWrongFalsely : Prop := fnJpStringPlaceRow.holds Tryd.pinned (OpenSpec.ofChange fnJpStringPlaceWrong)

/-- 'laws.FnMtTrimSuffix': WHATEVER THE INPUT: true; the input reads as it did. -/
def fnMtTrimSuffixSpec : ChangeSpec := { name := "fnMtTrimSuffix", fn := fun _ => fun
  | [d1, d2] => { results := [.lit (.bool true)], args := [d1, d2] }
  | _ => none }
def fnMtTrimSuffixRow : OpenClaim := { program := "ytikdecjojfmjaabdoor", sum := "b84b44446a061f75a6a199971e0a5d59e1e59d8327384abbef262d9f643f7d8c", func := "pub-tetrapla/laws.FnMtTrimSuffix", spec := "fnMtTrimSuffix", named := ["unicode/utf8.first", "unicode/utf8.acceptRanges"], apart := false, laid := [("unicode/utf8.acceptRanges", laid_unicode_utf8_acceptRanges), ("unicode/utf8.first", laid_unicode_utf8_first)] }
def FnMtTrimSuffixSaid : Prop := fnMtTrimSuffixRow.holds Tryd.pinned (OpenSpec.ofChange fnMtTrimSuffixSpec)

/-- ITS FALSE NEIGHBOUR: 'it returns false'. Refute it at one input. -/
def fnMtTrimSuffixWrong : ChangeSpec := { name := "fnMtTrimSuffix", fn := fun _ => fun
  | [d1, d2] => { results := [.lit (.bool false)], args := [d1, d2] }
  | _ => none }
def FnMtTrimSuffixWrongFalsely : Prop := fnMtTrimSuffixRow.holds Tryd.pinned (OpenSpec.ofChange fnMtTrimSuffixWrong)

/-- 'laws.FnMtAllowablePlain': WHATEVER THE INPUT: true; the input reads as it did. -/
def fnMtAllowablePlainSpec : ChangeSpec := { name := "fnMtAllowablePlain", fn := fun _ => fun
  | [d] => { results := [.lit (.bool true)], args := [d] }
  | _ => none }
def fnMtAllowablePlainRow : OpenClaim := { program := "ytikdecjojfmjaabdoor", sum := "b84b44446a061f75a6a199971e0a5d59e1e59d8327384abbef262d9f643f7d8c", func := "pub-tetrapla/laws.FnMtAllowablePlain", spec := "fnMtAllowablePlain", named := ["pub-tetrapla/pub/match.maxRuneBytes", "unicode/utf8.first", "unicode/utf8.acceptRanges"], apart := false, laid := [("unicode/utf8.acceptRanges", laid_unicode_utf8_acceptRanges), ("pub-tetrapla/pub/match.maxRuneBytes", laid_pub_tetrapla_pub_match_maxRuneBytes), ("unicode/utf8.first", laid_unicode_utf8_first)] }
def FnMtAllowablePlainSaid : Prop := fnMtAllowablePlainRow.holds Tryd.pinned (OpenSpec.ofChange fnMtAllowablePlainSpec)

/-- ITS FALSE NEIGHBOUR: 'it returns false'. Refute it at one input. -/
def fnMtAllowablePlainWrong : ChangeSpec := { name := "fnMtAllowablePlain", fn := fun _ => fun
  | [d] => { results := [.lit (.bool false)], args := [d] }
  | _ => none }
def FnMtAllowablePlainWrongFalsely : Prop := fnMtAllowablePlainRow.holds Tryd.pinned (OpenSpec.ofChange fnMtAllowablePlainWrong)

/-- 'laws.FnSjBuildDeep': WHATEVER THE INPUT: true; the input reads as it did. -/
def fnSjBuildDeepSpec : ChangeSpec := { name := "fnSjBuildDeep", fn := fun _ => fun
  | [d1, d2, d3, d4] => { results := [.lit (.bool true)], args := [d1, d2, d3, d4] }
  | _ => none }
def fnSjBuildDeepRow : OpenClaim := { program := "ytikdecjojfmjaabdoor", sum := "b84b44446a061f75a6a199971e0a5d59e1e59d8327384abbef262d9f643f7d8c", func := "pub-tetrapla/laws.FnSjBuildDeep", spec := "fnSjBuildDeep", recurses := true, named := ["unicode/utf8.first", "unicode/utf8.acceptRanges"], apart := false, laid := [("unicode/utf8.acceptRanges", laid_unicode_utf8_acceptRanges), ("unicode/utf8.first", laid_unicode_utf8_first)] }
def FnSjBuildDeepSaid : Prop := fnSjBuildDeepRow.holds Tryd.pinned (OpenSpec.ofChange fnSjBuildDeepSpec)

/-- ITS FALSE NEIGHBOUR: 'it returns false'. Refute it at one input. -/
def fnSjBuildDeepWrong : ChangeSpec := { name := "fnSjBuildDeep", fn := fun _ => fun
  | [d1, d2, d3, d4] => { results := [.lit (.bool false)], args := [d1, d2, d3, d4] }
  | _ => none }
def FnSjBuildDeepWrongFalsely : Prop := fnSjBuildDeepRow.holds Tryd.pinned (OpenSpec.ofChange fnSjBuildDeepWrong)

/-- 'laws.FnPaMergeBetween': WHATEVER THE INPUT: true; the input reads as it did. -/
def fnPaMergeBetweenSpec : ChangeSpec := { name := "fnPaMergeBetween", fn := fun _ => fun
  | [d1, d2] => { results := [.lit (.bool true)], args := [d1, d2] }
  | _ => none }
def fnPaMergeBetweenRow : OpenClaim := { program := "ytikdecjojfmjaabdoor", sum := "b84b44446a061f75a6a199971e0a5d59e1e59d8327384abbef262d9f643f7d8c", func := "pub-tetrapla/laws.FnPaMergeBetween", spec := "fnPaMergeBetween", recurses := true, named := ["pub-tetrapla/pub/jsonpatch.ErrExpectedObject", "pub-tetrapla/pub/jsonpatch.ErrInvalid", "pub-tetrapla/pub/jsonpatch.ErrMissing"], loops := true, apart := false, laid := [("pub-tetrapla/pub/jsonpatch.ErrMissing", laid_pub_tetrapla_pub_jsonpatch_ErrMissing), ("pub-tetrapla/pub/jsonpatch.ErrInvalid", laid_pub_tetrapla_pub_jsonpatch_ErrInvalid), ("pub-tetrapla/pub/jsonpatch.ErrExpectedObject", laid_pub_tetrapla_pub_jsonpatch_ErrExpectedObject)] }
def FnPaMergeBetweenSaid : Prop := fnPaMergeBetweenRow.holds Tryd.pinned (OpenSpec.ofChange fnPaMergeBetweenSpec)

/-- ITS FALSE NEIGHBOUR: 'it returns false'. Refute it at one input. -/
def fnPaMergeBetweenWrong : ChangeSpec := { name := "fnPaMergeBetween", fn := fun _ => fun
  | [d1, d2] => { results := [.lit (.bool false)], args := [d1, d2] }
  | _ => none }
def FnPaMergeBetweenWrongFalsely : Prop := fnPaMergeBetweenRow.holds Tryd.pinned (OpenSpec.ofChange fnPaMergeBetweenWrong)

/- THE SECOND FORM. 'bulk': how many values and letters a reading holds, each counted each time it is reached (what is shared counts as often as it is met; a slice's spare places count too). A statement '..UptoSaid' is the law's where the arguments, and the package variables that the reading takes, are together of bulk at most 1048576: NARROWER than '..Said'. Prove '..Said' where nothing that the law and all that it calls make is longer than what came in: it says more and counts as full. Else prove '..UptoSaid'. A law counts once. -/
mutual
def uptoBulk {H : Type} : DataW H → Nat
  | .lit (.string bytes) => bytes.length + 1
  | .lit _ => 1
  | .nil => 1
  | .ptr d => uptoBulk d + 1
  | .slice elems spare => uptoBulkAll elems + uptoBulkAll spare + 1
  | .agg parts => uptoBulkAll parts + 1
  | .iface _ d => uptoBulk d + 1
  | .map entries => uptoBulkEntries entries + 1
  | .held _ => 1
def uptoBulkAll {H : Type} : List (DataW H) → Nat
  | [] => 0
  | d :: r => uptoBulk d + uptoBulkAll r
def uptoBulkEntries {H : Type} : List (Lit × DataW H) → Nat
  | [] => 0
  | x :: r => uptoBulkEntry x + uptoBulkEntries r
def uptoBulkEntry {H : Type} : Lit × DataW H → Nat
  | (.string bytes, d) => bytes.length + uptoBulk d + 1
  | (_, d) => uptoBulk d + 1
 end
def uptoSmall : (H : Type) → List (DataW H) → Bool := fun _ ds => decide (uptoBulkAll ds ≤ 1048576)
def OpenSpec.upto (s : _root_.Go.ChangeSpec) : _root_.Go.OpenSpec := { _root_.Go.OpenSpec.ofChange s with cond := some uptoSmall }

/-- 'laws.FnJpParseIntBack', WHERE WHAT IT READS IS OF BULK AT MOST 1048576: true; the input reads as it did. -/
def fnJpParseIntBackUptoRow : OpenClaim := { program := "ytikdecjojfmjaabdoor", sum := "b84b44446a061f75a6a199971e0a5d59e1e59d8327384abbef262d9f643f7d8c", func := "pub-tetrapla/laws.FnJpParseIntBack", spec := "fnJpParseIntBack", named := ["pub-tetrapla/pub/jsonparser.OverflowIntegerError", "pub-tetrapla/pub/jsonparser.MalformedValueError"], apart := false, laid := [("pub-tetrapla/pub/jsonparser.MalformedValueError", laid_pub_tetrapla_pub_jsonparser_MalformedValueError), ("pub-tetrapla/pub/jsonparser.OverflowIntegerError", laid_pub_tetrapla_pub_jsonparser_OverflowIntegerError)], narrowed := true }
def FnJpParseIntBackUptoSaid : Prop := fnJpParseIntBackUptoRow.holds Tryd.pinned (OpenSpec.upto fnJpParseIntBackSpec)

/-- 'laws.FnJpStringPlace', WHERE WHAT IT READS IS OF BULK AT MOST 1048576: true; the input reads as it did. -/
def fnJpStringPlaceUptoRow : OpenClaim := { program := "ytikdecjojfmjaabdoor", sum := "b84b44446a061f75a6a199971e0a5d59e1e59d8327384abbef262d9f643f7d8c", func := "pub-tetrapla/laws.FnJpStringPlace", spec := "fnJpStringPlace", recurses := true, named := ["pub-tetrapla/pub/jsonparser.DefaultConfig", "encoding/binary.LittleEndian"], apart := false, laid := [("pub-tetrapla/pub/jsonparser.DefaultConfig", laid_pub_tetrapla_pub_jsonparser_DefaultConfig)], narrowed := true }
def FnJpStringPlaceUptoSaid : Prop := fnJpStringPlaceUptoRow.holds Tryd.pinned (OpenSpec.upto fnJpStringPlaceSpec)

/-- 'laws.FnMtTrimSuffix', WHERE WHAT IT READS IS OF BULK AT MOST 1048576: true; the input reads as it did. -/
def fnMtTrimSuffixUptoRow : OpenClaim := { program := "ytikdecjojfmjaabdoor", sum := "b84b44446a061f75a6a199971e0a5d59e1e59d8327384abbef262d9f643f7d8c", func := "pub-tetrapla/laws.FnMtTrimSuffix", spec := "fnMtTrimSuffix", named := ["unicode/utf8.first", "unicode/utf8.acceptRanges"], apart := false, laid := [("unicode/utf8.acceptRanges", laid_unicode_utf8_acceptRanges), ("unicode/utf8.first", laid_unicode_utf8_first)], narrowed := true }
def FnMtTrimSuffixUptoSaid : Prop := fnMtTrimSuffixUptoRow.holds Tryd.pinned (OpenSpec.upto fnMtTrimSuffixSpec)

/-- 'laws.FnMtAllowablePlain', WHERE WHAT IT READS IS OF BULK AT MOST 1048576: true; the input reads as it did. -/
def fnMtAllowablePlainUptoRow : OpenClaim := { program := "ytikdecjojfmjaabdoor", sum := "b84b44446a061f75a6a199971e0a5d59e1e59d8327384abbef262d9f643f7d8c", func := "pub-tetrapla/laws.FnMtAllowablePlain", spec := "fnMtAllowablePlain", named := ["pub-tetrapla/pub/match.maxRuneBytes", "unicode/utf8.first", "unicode/utf8.acceptRanges"], apart := false, laid := [("unicode/utf8.acceptRanges", laid_unicode_utf8_acceptRanges), ("pub-tetrapla/pub/match.maxRuneBytes", laid_pub_tetrapla_pub_match_maxRuneBytes), ("unicode/utf8.first", laid_unicode_utf8_first)], narrowed := true }
def FnMtAllowablePlainUptoSaid : Prop := fnMtAllowablePlainUptoRow.holds Tryd.pinned (OpenSpec.upto fnMtAllowablePlainSpec)

/-- 'laws.FnSjBuildDeep', WHERE WHAT IT READS IS OF BULK AT MOST 1048576: true; the input reads as it did. -/
def fnSjBuildDeepUptoRow : OpenClaim := { program := "ytikdecjojfmjaabdoor", sum := "b84b44446a061f75a6a199971e0a5d59e1e59d8327384abbef262d9f643f7d8c", func := "pub-tetrapla/laws.FnSjBuildDeep", spec := "fnSjBuildDeep", recurses := true, named := ["unicode/utf8.first", "unicode/utf8.acceptRanges"], apart := false, laid := [("unicode/utf8.acceptRanges", laid_unicode_utf8_acceptRanges), ("unicode/utf8.first", laid_unicode_utf8_first)], narrowed := true }
def FnSjBuildDeepUptoSaid : Prop := fnSjBuildDeepUptoRow.holds Tryd.pinned (OpenSpec.upto fnSjBuildDeepSpec)

/-- 'laws.FnPaMergeBetween', WHERE WHAT IT READS IS OF BULK AT MOST 1048576: true; the input reads as it did. -/
def fnPaMergeBetweenUptoRow : OpenClaim := { program := "ytikdecjojfmjaabdoor", sum := "b84b44446a061f75a6a199971e0a5d59e1e59d8327384abbef262d9f643f7d8c", func := "pub-tetrapla/laws.FnPaMergeBetween", spec := "fnPaMergeBetween", recurses := true, named := ["pub-tetrapla/pub/jsonpatch.ErrExpectedObject", "pub-tetrapla/pub/jsonpatch.ErrInvalid", "pub-tetrapla/pub/jsonpatch.ErrMissing"], loops := true, apart := false, laid := [("pub-tetrapla/pub/jsonpatch.ErrMissing", laid_pub_tetrapla_pub_jsonpatch_ErrMissing), ("pub-tetrapla/pub/jsonpatch.ErrInvalid", laid_pub_tetrapla_pub_jsonpatch_ErrInvalid), ("pub-tetrapla/pub/jsonpatch.ErrExpectedObject", laid_pub_tetrapla_pub_jsonpatch_ErrExpectedObject)], narrowed := true }
def FnPaMergeBetweenUptoSaid : Prop := fnPaMergeBetweenUptoRow.holds Tryd.pinned (OpenSpec.upto fnPaMergeBetweenSpec)

end Rows
end Go.Proofs.YtikdecjojfmjaabDoor
