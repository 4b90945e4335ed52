-- Written for this claim by this session's own program (wip/xprint).
import Derived.Test.YtfmllmlloekojaaDoorProg
import Derived.Below
import Derived.Deep.Draws
import Derived.Deep.AppendLies
import Derived.Maps.AppendAt
import Derived.OwnWalk
import Derived.Laws.BytesArg
import Derived.Laws.MakeOwn
import Derived.Laws.OwnMore
import Derived.Deep.OwnRows
import Derived.Tactics
import Derived.Lib.ConvBytes
import Derived.Laws.Slices
import Derived.WalkKit
import Derived.KernelRfl
import Derived.RowKit3
import Derived.Deep.LoopGhost
import Derived.Deep.QuietTactic
import Derived.BigQuiet
import Derived.WideLaws
import Derived.Deep.DeepCutAuto
import Derived.Deep.CutBlock
import Derived.Deep.RegionHeld3
import Derived.Laws.Rows
import Derived.Lib.AppendStr
import Derived.ArgAppend
import Derived.Laws.IdiomCopy
import Derived.OrdersHeld
import Derived.Laws.BitsLemmas
import Derived.RowKit
import Derived.Test.YtfmllmlloekojaaDoorXLaidFnJrPath
import Derived.Test.YtfmllmlloekojaaDoorJrIdx
import Derived.Test.YtfmllmlloekojaaDoorJrUne
import Derived.Test.YtfmllmlloekojaaDoorJrKind
import Derived.Test.YtfmllmlloekojaaDoorXWords
import Derived.Test.YtfmllmlloekojaaDoorWWords
import Derived.Test.YtfmllmlloekojaaDoorWLast
import Derived.Test.YtfmllmlloekojaaDoorWQPut
import Derived.Test.YtfmllmlloekojaaDoorWApart
import Derived.Test.YtfmllmlloekojaaDoorWArr
import Derived.Test.YtfmllmlloekojaaDoorWZeros
import Derived.Test.YtfmllmlloekojaaDoorWFoot
import Derived.Test.YtfmllmlloekojaaDoorWKept
import Derived.Test.YtfmllmlloekojaaDoorWShare
import Derived.Test.YtfmllmlloekojaaDoorWN
import Derived.Test.YtfmllmlloekojaaDoorWNEv
import Derived.Test.YtfmllmlloekojaaDoorWMore
namespace Go.Proofs.YtfmllmlloekojaaDoor.PFnJrPath
open Go.RowKit Go.Proofs.YtfmllmlloekojaaDoorW.PrintWords Go.Proofs.YtfmllmlloekojaaDoorW.PrintLast Go.Proofs.YtfmllmlloekojaaDoorW.PrintMore
attribute [local go_sem] max2_int min2_int max_two min_two max_three min_three max_four min_four   -- for this text's walks alone
set_option linter.unusedVariables false
set_option linter.unusedSimpArgs false




theorem info9 : (Tryd.prog.info? 9).map (fun i => (i.zero, i.size, i.bytes)) = some (some (.string ⟨#[]⟩), 1, 16) := by kernel_rfl
-- the values' own types

end Go.Proofs.YtfmllmlloekojaaDoor.PFnJrPath
