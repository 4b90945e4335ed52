-- Words of the print, struck by this session's own program (wip/xprint/prune.py) to those that this claim's texts name.
import Derived.Test.YtfoloneeibgoiaaDoorWInv
import Derived.Test.YtfoloneeibgoiaaDoorWFootNe
namespace Go.Proofs.YtfoloneeibgoiaaDoorW.PrintWords
open Go.RowKit
end Go.Proofs.YtfoloneeibgoiaaDoorW.PrintWords
namespace Go.Proofs.YtfoloneeibgoiaaDoorW.PrintLast
section
variable {ops : Array Oper} {a : Act} {o og : Oper} {g : Nat} {t : Tmp} {u : Bool}
end
end Go.Proofs.YtfoloneeibgoiaaDoorW.PrintLast
