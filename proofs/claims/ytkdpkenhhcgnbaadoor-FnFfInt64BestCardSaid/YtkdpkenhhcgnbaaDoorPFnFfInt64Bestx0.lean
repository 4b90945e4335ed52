-- Written for this claim by this session's own program (wip/xprint).
import Derived.Test.YtkdpkenhhcgnbaaDoorProg
import Derived.Below
import Derived.Deep.Draws
import Derived.Deep.AppendLies
import Derived.Maps.AppendAt
import Derived.OwnWalk
import Derived.Laws.BytesArg
import Derived.Laws.MakeOwn
import Derived.Laws.OwnMore
import Derived.Deep.OwnRows
import Derived.Tactics
import Derived.Lib.ConvBytes
import Derived.Laws.Slices
import Derived.WalkKit
import Derived.KernelRfl
import Derived.RowKit3
import Derived.Deep.LoopGhost
import Derived.Deep.QuietTactic
import Derived.BigQuiet
import Derived.WideLaws
import Derived.Deep.DeepCutAuto
import Derived.Deep.CutBlock
import Derived.Deep.RegionHeld3
import Derived.Laws.Rows
import Derived.Lib.AppendStr
import Derived.ArgAppend
import Derived.Laws.IdiomCopy
import Derived.OrdersHeld
import Derived.Laws.BitsLemmas
import Derived.RowKit
import Derived.Test.YtkdpkenhhcgnbaaDoorXLaidFnFfInt64Best
import Derived.Test.YtkdpkenhhcgnbaaDoorErrNew
import Derived.Test.YtkdpkenhhcgnbaaDoorPIW
import Derived.Test.YtkdpkenhhcgnbaaDoorWWords
import Derived.Test.YtkdpkenhhcgnbaaDoorWLast
import Derived.Test.YtkdpkenhhcgnbaaDoorWQPut
import Derived.Test.YtkdpkenhhcgnbaaDoorWApart
import Derived.Test.YtkdpkenhhcgnbaaDoorWArr
import Derived.Test.YtkdpkenhhcgnbaaDoorWZeros
import Derived.Test.YtkdpkenhhcgnbaaDoorWFoot
import Derived.Test.YtkdpkenhhcgnbaaDoorWKept
import Derived.Test.YtkdpkenhhcgnbaaDoorWShare
import Derived.Test.YtkdpkenhhcgnbaaDoorWN
import Derived.Test.YtkdpkenhhcgnbaaDoorWNEv
import Derived.Test.YtkdpkenhhcgnbaaDoorWMore
namespace Go.Proofs.YtkdpkenhhcgnbaaDoor.PFnFfInt64Best
open Go.RowKit Go.Proofs.YtkdpkenhhcgnbaaDoorW.PrintWords Go.Proofs.YtkdpkenhhcgnbaaDoorW.PrintLast Go.Proofs.YtkdpkenhhcgnbaaDoorW.PrintMore
attribute [local go_sem] max2_int min2_int max_two min_two max_three min_three max_four min_four   -- for this text's walks alone
set_option linter.unusedVariables false
set_option linter.unusedSimpArgs false



def errW : Option Int → Value
  | none => .nilIface
  | some c => .iface 0 (.int .i64 c)
theorem errW_none : errW none = .nilIface := rfl
theorem errW_some (c : Int) : errW (some c) = .iface 0 (.int .i64 c) := rfl

-- the values' own types

end Go.Proofs.YtkdpkenhhcgnbaaDoor.PFnFfInt64Best
