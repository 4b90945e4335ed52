-- Words of the print, struck by this session's own program (wip/xprint/prune.py) to those that this claim's texts name.
import Derived.Test.YtkhgbacbnkgafaaGreatDoorWInv
import Derived.Test.YtkhgbacbnkgafaaGreatDoorWFootNe
namespace Go.Proofs.YtkhgbacbnkgafaaGreatDoorW.PrintWords
open Go.RowKit
end Go.Proofs.YtkhgbacbnkgafaaGreatDoorW.PrintWords
namespace Go.Proofs.YtkhgbacbnkgafaaGreatDoorW.PrintLast
section
variable {ops : Array Oper} {a : Act} {o og : Oper} {g : Nat} {t : Tmp} {u : Bool}
end
end Go.Proofs.YtkhgbacbnkgafaaGreatDoorW.PrintLast
