/-
  No cell of these rows narrows 'for every input' (looked for: loops, veiled, ifaces, maps, wideKeys, modest, calm, conditions, laid).
  DERIVED. THE GIVEN ROWS OF THIS SEAT. 6 by the template 'for every input the law returns true; each argument reads behind the call as it read before'; 0 by the template 'total and deterministic' (their statements: YtikdecjojfmjaaaTotals.lean).
  GIVEN WITH THE SEED: the statements are not yours to turn. If you find one false, say at which input.
  Laid BY PROGRAM, IN A SANDBOX (cutbox-rows.mjs): the forced cells as the released guide's own fill.sh prints them over the translation 84cd3c3767370ba6… (all of the seat's roots in one cut). By AI agents, Wed Nov 11 2026. No macro, syntax, notation, axiom, sorry.
-/
import Derived.Test.YtikdecjojfmjaaaChecked
import GoSem.Claim
import GoSem.ClaimJoined
import GoSem.ClaimMapViews
import Derived.JoinedTies
import Derived.KernelRfl
namespace Go.Proofs.Ytikdecjojfmjaaa
/- THE CELL 'sum', in the pinned program and in every row, IS THE sha256 OF THE DUMP (.gsa) THAT YtikdecjojfmjaaaProg.lean LOADS. Nothing in Lean hashes anything: it is a label: what it is worth is what the hold of that sum in a sandbox is worth. -/
noncomputable def Try.pinned : Pinned := { name := "ytikdecjojfmjaaa", sum := "84cd3c3767370ba6a3693093f8561e99a05dfc60437dbc8c2c8423137d4f623a", checked := Try.checked }
namespace Rows
def none {H : Type} : Left H := { results := [], args := [] }

/-- 'laws.FnGjTrimBetween': WHATEVER THE INPUT: true; the input reads as it did. -/
def fnGjTrimBetweenSpec : ChangeSpec := { name := "fnGjTrimBetween", fn := fun _ => fun
  | [d1, d2, d3] => { results := [.lit (.bool true)], args := [d1, d2, d3] }
  | _ => none }
def fnGjTrimBetweenRow : OpenClaim := { program := "ytikdecjojfmjaaa", sum := "84cd3c3767370ba6a3693093f8561e99a05dfc60437dbc8c2c8423137d4f623a", func := "pub-tetrapla/laws.FnGjTrimBetween", spec := "fnGjTrimBetween", apart := false }
def FnGjTrimBetweenSaid : Prop := fnGjTrimBetweenRow.holds Try.pinned (OpenSpec.ofChange fnGjTrimBetweenSpec)

/-- ITS FALSE NEIGHBOUR: 'it returns false'. Refute it at one input. -/
def fnGjTrimBetweenWrong : ChangeSpec := { name := "fnGjTrimBetween", fn := fun _ => fun
  | [d1, d2, d3] => { results := [.lit (.bool false)], args := [d1, d2, d3] }
  | _ => none }
def FnGjTrimBetweenWrongFalsely : Prop := fnGjTrimBetweenRow.holds Try.pinned (OpenSpec.ofChange fnGjTrimBetweenWrong)

/-- 'laws.FnPaTokenBack': WHATEVER THE INPUT: true; the input reads as it did. -/
def fnPaTokenBackSpec : ChangeSpec := { name := "fnPaTokenBack", fn := fun _ => fun
  | [d] => { results := [.lit (.bool true)], args := [d] }
  | _ => none }
def fnPaTokenBackRow : OpenClaim := { program := "ytikdecjojfmjaaa", sum := "84cd3c3767370ba6a3693093f8561e99a05dfc60437dbc8c2c8423137d4f623a", func := "pub-tetrapla/laws.FnPaTokenBack", spec := "fnPaTokenBack", apart := false }
def FnPaTokenBackSaid : Prop := fnPaTokenBackRow.holds Try.pinned (OpenSpec.ofChange fnPaTokenBackSpec)

/-- ITS FALSE NEIGHBOUR: 'it returns false'. Refute it at one input. -/
def fnPaTokenBackWrong : ChangeSpec := { name := "fnPaTokenBack", fn := fun _ => fun
  | [d] => { results := [.lit (.bool false)], args := [d] }
  | _ => none }
def FnPaTokenBackWrongFalsely : Prop := fnPaTokenBackRow.holds Try.pinned (OpenSpec.ofChange fnPaTokenBackWrong)

/-- 'laws.FnGjStringAt': WHATEVER THE INPUT: true; the input reads as it did. -/
def fnGjStringAtSpec : ChangeSpec := { name := "fnGjStringAt", fn := fun _ => fun
  | [d] => { results := [.lit (.bool true)], args := [d] }
  | _ => none }
def fnGjStringAtRow : OpenClaim := { program := "ytikdecjojfmjaaa", sum := "84cd3c3767370ba6a3693093f8561e99a05dfc60437dbc8c2c8423137d4f623a", func := "pub-tetrapla/laws.FnGjStringAt", spec := "fnGjStringAt", recurses := true, apart := false }
def FnGjStringAtSaid : Prop := fnGjStringAtRow.holds Try.pinned (OpenSpec.ofChange fnGjStringAtSpec)

/-- ITS FALSE NEIGHBOUR: 'it returns false'. Refute it at one input. -/
def fnGjStringAtWrong : ChangeSpec := { name := "fnGjStringAt", fn := fun _ => fun
  | [d] => { results := [.lit (.bool false)], args := [d] }
  | _ => none }
def FnGjStringAtWrongFalsely : Prop := fnGjStringAtRow.holds Try.pinned (OpenSpec.ofChange fnGjStringAtWrong)

/-- 'laws.FnGjSquashAny': WHATEVER THE INPUT: true; the input reads as it did. -/
def fnGjSquashAnySpec : ChangeSpec := { name := "fnGjSquashAny", fn := fun _ => fun
  | [d] => { results := [.lit (.bool true)], args := [d] }
  | _ => none }
def fnGjSquashAnyRow : OpenClaim := { program := "ytikdecjojfmjaaa", sum := "84cd3c3767370ba6a3693093f8561e99a05dfc60437dbc8c2c8423137d4f623a", func := "pub-tetrapla/laws.FnGjSquashAny", spec := "fnGjSquashAny", apart := false }
def FnGjSquashAnySaid : Prop := fnGjSquashAnyRow.holds Try.pinned (OpenSpec.ofChange fnGjSquashAnySpec)

/-- ITS FALSE NEIGHBOUR: 'it returns false'. Refute it at one input. -/
def fnGjSquashAnyWrong : ChangeSpec := { name := "fnGjSquashAny", fn := fun _ => fun
  | [d] => { results := [.lit (.bool false)], args := [d] }
  | _ => none }
def FnGjSquashAnyWrongFalsely : Prop := fnGjSquashAnyRow.holds Try.pinned (OpenSpec.ofChange fnGjSquashAnyWrong)

/-- 'laws.FnGjResultLessFold': WHATEVER THE INPUT: true; the input reads as it did. -/
def fnGjResultLessFoldSpec : ChangeSpec := { name := "fnGjResultLessFold", fn := fun _ => fun
  | [d1, d2] => { results := [.lit (.bool true)], args := [d1, d2] }
  | _ => none }
def fnGjResultLessFoldRow : OpenClaim := { program := "ytikdecjojfmjaaa", sum := "84cd3c3767370ba6a3693093f8561e99a05dfc60437dbc8c2c8423137d4f623a", func := "pub-tetrapla/laws.FnGjResultLessFold", spec := "fnGjResultLessFold", apart := false }
def FnGjResultLessFoldSaid : Prop := fnGjResultLessFoldRow.holds Try.pinned (OpenSpec.ofChange fnGjResultLessFoldSpec)

/-- ITS FALSE NEIGHBOUR: 'it returns false'. Refute it at one input. -/
def fnGjResultLessFoldWrong : ChangeSpec := { name := "fnGjResultLessFold", fn := fun _ => fun
  | [d1, d2] => { results := [.lit (.bool false)], args := [d1, d2] }
  | _ => none }
def FnGjResultLessFoldWrongFalsely : Prop := fnGjResultLessFoldRow.holds Try.pinned (OpenSpec.ofChange fnGjResultLessFoldWrong)

/-- 'laws.FnSjPath': WHATEVER THE INPUT: true; the input reads as it did. -/
def fnSjPathSpec : ChangeSpec := { name := "fnSjPath", fn := fun _ => fun
  | [d1, d2] => { results := [.lit (.bool true)], args := [d1, d2] }
  | _ => none }
def fnSjPathRow : OpenClaim := { program := "ytikdecjojfmjaaa", sum := "84cd3c3767370ba6a3693093f8561e99a05dfc60437dbc8c2c8423137d4f623a", func := "pub-tetrapla/laws.FnSjPath", spec := "fnSjPath", apart := false }
def FnSjPathSaid : Prop := fnSjPathRow.holds Try.pinned (OpenSpec.ofChange fnSjPathSpec)

/-- ITS FALSE NEIGHBOUR: 'it returns false'. Refute it at one input. -/
def fnSjPathWrong : ChangeSpec := { name := "fnSjPath", fn := fun _ => fun
  | [d1, d2] => { results := [.lit (.bool false)], args := [d1, d2] }
  | _ => none }
def FnSjPathWrongFalsely : Prop := fnSjPathRow.holds Try.pinned (OpenSpec.ofChange fnSjPathWrong)

/- THE SECOND FORM. 'bulk': how many values and letters a reading holds, each counted each time it is reached (what is shared counts as often as it is met; a slice's spare places count too). A statement '..UptoSaid' is the law's where the arguments, and the package variables that the reading takes, are together of bulk at most 1048576: NARROWER than '..Said'. Prove '..Said' where nothing that the law and all that it calls make is longer than what came in: it says more and counts as full. Else prove '..UptoSaid'. A law counts once. -/
mutual
def uptoBulk {H : Type} : DataW H → Nat
  | .lit (.string bytes) => bytes.length + 1
  | .lit _ => 1
  | .nil => 1
  | .ptr d => uptoBulk d + 1
  | .slice elems spare => uptoBulkAll elems + uptoBulkAll spare + 1
  | .agg parts => uptoBulkAll parts + 1
  | .iface _ d => uptoBulk d + 1
  | .map entries => uptoBulkEntries entries + 1
  | .held _ => 1
def uptoBulkAll {H : Type} : List (DataW H) → Nat
  | [] => 0
  | d :: r => uptoBulk d + uptoBulkAll r
def uptoBulkEntries {H : Type} : List (Lit × DataW H) → Nat
  | [] => 0
  | x :: r => uptoBulkEntry x + uptoBulkEntries r
def uptoBulkEntry {H : Type} : Lit × DataW H → Nat
  | (.string bytes, d) => bytes.length + uptoBulk d + 1
  | (_, d) => uptoBulk d + 1
 end
def uptoSmall : (H : Type) → List (DataW H) → Bool := fun _ ds => decide (uptoBulkAll ds ≤ 1048576)
def OpenSpec.upto (s : _root_.Go.ChangeSpec) : _root_.Go.OpenSpec := { _root_.Go.OpenSpec.ofChange s with cond := some uptoSmall }

/-- 'laws.FnGjTrimBetween', WHERE WHAT IT READS IS OF BULK AT MOST 1048576: true; the input reads as it did. -/
def fnGjTrimBetweenUptoRow : OpenClaim := { program := "ytikdecjojfmjaaa", sum := "84cd3c3767370ba6a3693093f8561e99a05dfc60437dbc8c2c8423137d4f623a", func := "pub-tetrapla/laws.FnGjTrimBetween", spec := "fnGjTrimBetween", apart := false, narrowed := true }
def FnGjTrimBetweenUptoSaid : Prop := fnGjTrimBetweenUptoRow.holds Try.pinned (OpenSpec.upto fnGjTrimBetweenSpec)

/-- 'laws.FnPaTokenBack', WHERE WHAT IT READS IS OF BULK AT MOST 1048576: true; the input reads as it did. -/
def fnPaTokenBackUptoRow : OpenClaim := { program := "ytikdecjojfmjaaa", sum := "84cd3c3767370ba6a3693093f8561e99a05dfc60437dbc8c2c8423137d4f623a", func := "pub-tetrapla/laws.FnPaTokenBack", spec := "fnPaTokenBack", apart := false, narrowed := true }
def FnPaTokenBackUptoSaid : Prop := fnPaTokenBackUptoRow.holds Try.pinned (OpenSpec.upto fnPaTokenBackSpec)

/-- 'laws.FnGjStringAt', WHERE WHAT IT READS IS OF BULK AT MOST 1048576: true; the input reads as it did. -/
def fnGjStringAtUptoRow : OpenClaim := { program := "ytikdecjojfmjaaa", sum := "84cd3c3767370ba6a3693093f8561e99a05dfc60437dbc8c2c8423137d4f623a", func := "pub-tetrapla/laws.FnGjStringAt", spec := "fnGjStringAt", recurses := true, apart := false, narrowed := true }
def FnGjStringAtUptoSaid : Prop := fnGjStringAtUptoRow.holds Try.pinned (OpenSpec.upto fnGjStringAtSpec)

/-- 'laws.FnGjSquashAny', WHERE WHAT IT READS IS OF BULK AT MOST 1048576: true; the input reads as it did. -/
def fnGjSquashAnyUptoRow : OpenClaim := { program := "ytikdecjojfmjaaa", sum := "84cd3c3767370ba6a3693093f8561e99a05dfc60437dbc8c2c8423137d4f623a", func := "pub-tetrapla/laws.FnGjSquashAny", spec := "fnGjSquashAny", apart := false, narrowed := true }
def FnGjSquashAnyUptoSaid : Prop := fnGjSquashAnyUptoRow.holds Try.pinned (OpenSpec.upto fnGjSquashAnySpec)

/-- 'laws.FnGjResultLessFold', WHERE WHAT IT READS IS OF BULK AT MOST 1048576: true; the input reads as it did. -/
def fnGjResultLessFoldUptoRow : OpenClaim := { program := "ytikdecjojfmjaaa", sum := "84cd3c3767370ba6a3693093f8561e99a05dfc60437dbc8c2c8423137d4f623a", func := "pub-tetrapla/laws.FnGjResultLessFold", spec := "fnGjResultLessFold", apart := false, narrowed := true }
def FnGjResultLessFoldUptoSaid : Prop := fnGjResultLessFoldUptoRow.holds Try.pinned (OpenSpec.upto fnGjResultLessFoldSpec)

/-- 'laws.FnSjPath', WHERE WHAT IT READS IS OF BULK AT MOST 1048576: true; the input reads as it did. -/
def fnSjPathUptoRow : OpenClaim := { program := "ytikdecjojfmjaaa", sum := "84cd3c3767370ba6a3693093f8561e99a05dfc60437dbc8c2c8423137d4f623a", func := "pub-tetrapla/laws.FnSjPath", spec := "fnSjPath", apart := false, narrowed := true }
def FnSjPathUptoSaid : Prop := fnSjPathUptoRow.holds Try.pinned (OpenSpec.upto fnSjPathSpec)

end Rows
end Go.Proofs.Ytikdecjojfmjaaa
