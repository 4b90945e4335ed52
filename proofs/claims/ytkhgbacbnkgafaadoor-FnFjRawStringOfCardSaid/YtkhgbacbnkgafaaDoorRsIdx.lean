/- strings.IndexByte (function 37), as a Lean function over the text. -/
import Derived.Test.YtkhgbacbnkgafaaDoorShRp
import Derived.Test.YtkhgbacbnkgafaaDoorWMore
set_option linter.unusedVariables false
namespace Go.Proofs.YtkhgbacbnkgafaaDoor.Lex
open Go Go.RowKit Go.Proofs.YtkhgbacbnkgafaaDoorW.PrintWords

def strings_IndexByte.f (a0 : ByteArray) (a1 : Int) : Option Int := some (Lib.indexByte a0.data.toList a1.toNat.toUInt8)
theorem strings_IndexByte.calls (a0 : ByteArray) (a1 : Int) (r : Int) (w : World) (h : strings_IndexByte.f a0 a1 = some r) :
    Calls Tryd.prog 37 #[.string a0, .int .u8 a1] w fun e w' => e = .returned (.int .i64 r) ∧ Drawn0 w w' := by
  obtain rfl := Option.some.inj h
  refine (Tryd.strings_IndexByte a0 a1 w).mono ?_
  rintro e w' ⟨rfl, rfl⟩
  exact ⟨rfl, Drawn0.refl _⟩

end Go.Proofs.YtkhgbacbnkgafaaDoor.Lex
