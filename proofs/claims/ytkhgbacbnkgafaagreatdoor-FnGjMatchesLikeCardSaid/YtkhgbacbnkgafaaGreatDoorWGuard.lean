-- Words of the print, struck by this session's own program (wip/xprint/prune.py) to those that this claim's texts name.
import Derived.Test.YtkhgbacbnkgafaaGreatDoorWWords
namespace Go.Proofs.YtkhgbacbnkgafaaGreatDoorW.PrintWords
open Go.RowKit
section
variable {P : Program} {ops : Array Oper} {rest : List Oper} {o : Oper} {a : Act} {Q : Exit → Act → World → Prop} {W : World}
end
end Go.Proofs.YtkhgbacbnkgafaaGreatDoorW.PrintWords
