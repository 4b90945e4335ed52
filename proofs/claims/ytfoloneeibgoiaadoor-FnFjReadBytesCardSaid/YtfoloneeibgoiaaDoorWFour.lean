-- Words of the print, struck by this session's own program (wip/xprint/prune.py) to those that this claim's texts name.
import Derived.Test.YtfoloneeibgoiaaDoorWTab
namespace Go.Proofs.YtfoloneeibgoiaaDoorW.PrintLast
section
variable {P : Program} {ops : Array Oper} {Q : Exit → Act → World → Prop} {md : Region.Mode} {S : World → Prop} {ds : List Nat} {T : Bool × List (List Nat × List Nat)}
end
end Go.Proofs.YtfoloneeibgoiaaDoorW.PrintLast
