-- Words of the print, struck by this session's own program (wip/xprint/prune.py) to those that this claim's texts name.
import Derived.Test.YtfmllmlloekojaaDoorWInv
import Derived.Test.YtfmllmlloekojaaDoorWFootNe
namespace Go.Proofs.YtfmllmlloekojaaDoorW.PrintWords
open Go.RowKit
end Go.Proofs.YtfmllmlloekojaaDoorW.PrintWords
namespace Go.Proofs.YtfmllmlloekojaaDoorW.PrintLast
section
variable {ops : Array Oper} {a : Act} {o og : Oper} {g : Nat} {t : Tmp} {u : Bool}
end
end Go.Proofs.YtfmllmlloekojaaDoorW.PrintLast
