-- Words of the print, struck by this session's own program (wip/xprint/prune.py) to those that this claim's texts name.
import Derived.Test.YtkhgbacbnkgafaaGreatDoorWWords
import Derived.Laws.StructEq
namespace Go.Proofs.YtkhgbacbnkgafaaGreatDoorW.PrintWords
open Go.RowKit
section
variable {P : Program} {d : Nat} {xs ys : Array Value} {f : Field} {fs : List Field} {a b : Value} {r s : Bool} {w : World}
end
end Go.Proofs.YtkhgbacbnkgafaaGreatDoorW.PrintWords
