/- errors.New (function 38): an error, whatever it holds. -/
import Derived.Test.YtkhgbacbnkgafaaDoorXWords
import Derived.Test.YtkhgbacbnkgafaaDoorProg
set_option linter.unusedVariables false
namespace Go.Proofs.YtkhgbacbnkgafaaDoor.Lex
open Go Go.RowKit Go.Proofs.YtkhgbacbnkgafaaDoorW.PrintWords

def errors_New.f (a0 : ByteArray) : Option (Option Int) := some (some 0)
set_option maxHeartbeats 1000000 in
theorem errors_New.calls (a0 : ByteArray) (r : Option Int) (w : World) (h : errors_New.f a0 = some r) :
    Calls Tryd.prog 38 #[.string a0] w fun e w' => ∃ x0_ : TypeId × Value, e = .returned (errX x0_ r) ∧ Below w.heap.size w w' := by
  obtain rfl := Option.some.inj h
  go_enter Tryd.func38, Tryd.ntmps38
  go_wp2
  go_ret
  exact ⟨(_, _), rfl, (Below.refl _ _).alloc (Nat.le_refl _) _⟩

end Go.Proofs.YtkhgbacbnkgafaaDoor.Lex
