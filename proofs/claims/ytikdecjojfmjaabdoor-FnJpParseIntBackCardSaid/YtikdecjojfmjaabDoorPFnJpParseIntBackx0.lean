-- Written for this claim by this session's own program (wip/xprint).
import Derived.Test.YtikdecjojfmjaabDoorProg
import Derived.Below
import Derived.Deep.Draws
import Derived.Deep.AppendLies
import Derived.Maps.AppendAt
import Derived.OwnWalk
import Derived.Laws.BytesArg
import Derived.Laws.MakeOwn
import Derived.Laws.OwnMore
import Derived.Deep.OwnRows
import Derived.Tactics
import Derived.Lib.ConvBytes
import Derived.Laws.Slices
import Derived.WalkKit
import Derived.KernelRfl
import Derived.RowKit3
import Derived.Deep.LoopGhost
import Derived.Deep.QuietTactic
import Derived.BigQuiet
import Derived.WideLaws
import Derived.Deep.DeepCutAuto
import Derived.Deep.CutBlock
import Derived.Deep.RegionHeld3
import Derived.Laws.Rows
import Derived.Lib.AppendStr
import Derived.ArgAppend
import Derived.Laws.IdiomCopy
import Derived.OrdersHeld
import Derived.Laws.BitsLemmas
import Derived.RowKit
import Derived.Test.YtikdecjojfmjaabDoorXWords
import Derived.Test.YtikdecjojfmjaabDoorWWords
import Derived.Test.YtikdecjojfmjaabDoorWLast
import Derived.Test.YtikdecjojfmjaabDoorWTab
import Derived.Test.YtikdecjojfmjaabDoorWFour
import Derived.Test.YtikdecjojfmjaabDoorWQPut
import Derived.Test.YtikdecjojfmjaabDoorWApart
import Derived.Test.YtikdecjojfmjaabDoorWArr
import Derived.Test.YtikdecjojfmjaabDoorWZeros
import Derived.Test.YtikdecjojfmjaabDoorWFoot
import Derived.Test.YtikdecjojfmjaabDoorWKept
import Derived.Test.YtikdecjojfmjaabDoorWShare
import Derived.Test.YtikdecjojfmjaabDoorWN
import Derived.Test.YtikdecjojfmjaabDoorWFootNe
import Derived.Test.YtikdecjojfmjaabDoorWAt
import Derived.Test.YtikdecjojfmjaabDoorWEqStruct
import Derived.Test.YtikdecjojfmjaabDoorWRepsOne
import Derived.Test.YtikdecjojfmjaabDoorWInv
import Derived.Test.YtikdecjojfmjaabDoorWInvWords
import Derived.Test.YtikdecjojfmjaabDoorWGuard
import Derived.Test.YtikdecjojfmjaabDoorWNEv
import Derived.Test.YtikdecjojfmjaabDoorWMore
namespace Go.Proofs.YtikdecjojfmjaabDoor.PFnJpParseIntBack
open Go.RowKit Go.Proofs.YtikdecjojfmjaabDoorW.PrintWords Go.Proofs.YtikdecjojfmjaabDoorW.PrintLast Go.Proofs.YtikdecjojfmjaabDoorW.PrintMore
attribute [local go_sem] max2_int min2_int max_two min_two max_three min_three max_four min_four   -- for this text's walks alone
set_option linter.unusedVariables false
set_option linter.unusedSimpArgs false



def errW : Option Int → Value
  | none => .nilIface
  | some c => .iface 0 (.int .i64 c)
theorem errW_none : errW none = .nilIface := rfl
theorem errW_some (c : Int) : errW (some c) = .iface 0 (.int .i64 c) := rfl

theorem info5 : (Tryd.prog.info? 5).map (fun i => (i.zero, i.size, i.bytes)) = some (some (.int .u8 0), 1, 1) := by kernel_rfl
-- the values' own types

end Go.Proofs.YtikdecjojfmjaabDoor.PFnJpParseIntBack
