-- Words of the print, struck by this session's own program (wip/xprint/prune.py) to those that this claim's texts name.
import Derived.Test.YtkhgbacbnkgafaaGreatDoorWTab
namespace Go.Proofs.YtkhgbacbnkgafaaGreatDoorW.PrintLast
section
variable {P : Program} {ops : Array Oper} {Q : Exit → Act → World → Prop} {md : Region.Mode} {S : World → Prop} {ds : List Nat} {T : Bool × List (List Nat × List Nat)}
end
end Go.Proofs.YtkhgbacbnkgafaaGreatDoorW.PrintLast
