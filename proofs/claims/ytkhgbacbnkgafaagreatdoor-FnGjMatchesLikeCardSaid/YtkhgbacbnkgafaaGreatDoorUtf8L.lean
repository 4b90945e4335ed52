/- unicode/utf8's reader of a text's last character (function 63), as a Lean function over the text. -/
import Derived.Test.YtkhgbacbnkgafaaGreatDoorXLaidFnGjMatchesLike
import Derived.Test.YtkhgbacbnkgafaaGreatDoorWMore
set_option linter.unusedVariables false
namespace Go.Proofs.YtkhgbacbnkgafaaGreatDoor.PFnGjMatchesLike
open Go Go.RowKit Go.Proofs.YtkhgbacbnkgafaaGreatDoorW.PrintWords

def utf8_DecodeLastRuneInString.f (a0 : ByteArray) : Option (Int × Int) := if a0.size ≤ 9223372036854775807 then some (((Lib.decodeLastL a0.data.toList).1 : Int), ((Lib.decodeLastL a0.data.toList).2 : Int)) else none
theorem utf8_DecodeLastRuneInString.calls (a0 : ByteArray) (r1 r2 : Int) (w : World) (hL : Laid w) (h : utf8_DecodeLastRuneInString.f a0 = some (r1, r2)) :
    Calls Tryz.prog 63 #[.string a0] w fun e w' => e = .returned (.tuple #[.int .i32 r1, .int .i64 r2]) ∧ Below w.heap.size w w' := by
  unfold utf8_DecodeLastRuneInString.f at h
  split at h
  · rename_i hs
    simp only [Option.some.injEq, Prod.mk.injEq] at h
    obtain ⟨rfl, rfl⟩ := h
    exact Tryz.utf8_DecodeLastRuneInString a0 w hs (Laid.tabs hL)
  · cases h

end Go.Proofs.YtkhgbacbnkgafaaGreatDoor.PFnGjMatchesLike
