/- strconv.ParseInt in base 10 at 64 bits (function 61), as a Lean function over the text; an error, whatever it holds. -/
import Derived.Test.YtkdpkenhhcgnbaaDoorShPI
import Derived.Test.YtkdpkenhhcgnbaaDoorXLaidFnFfInt64Best
import Derived.Test.YtkdpkenhhcgnbaaDoorXWords
set_option linter.unusedVariables false
namespace Go.Proofs.YtkdpkenhhcgnbaaDoor.PFnFfInt64Best
open Go Go.RowKit Go.Proofs.YtkdpkenhhcgnbaaDoorW.PrintWords

def strconv_ParseInt_61.f (a0 : ByteArray) (a1 a2 : Int) : Option (Int × Option Int) :=
  if a1 = 10 ∧ a2 = 64 ∧ a0.size ≤ 281474976710656 then
    (match Lib.parseIntB 64 a0.data.toList with
      | .ok v => some (v, none)
      | .«syntax» => some (0, some 0)
      | .range => some (Lib.intSat 64 a0.data.toList, some 1))
  else none
theorem strconv_ParseInt_61.calls (a0 : ByteArray) (a1 a2 : Int) (r1 : Int) (r2 : Option Int) (w : World) (hL : Laid w) (h : strconv_ParseInt_61.f a0 a1 a2 = some (r1, r2)) :
    Calls Tryd.prog 61 #[.string a0, .int .i64 a1, .int .i64 a2] w fun e w' => ∃ x1_ : TypeId × Value, e = .returned (.tuple #[.int .i64 r1, errX x1_ r2]) ∧ Below w.heap.size w w' := by
  unfold strconv_ParseInt_61.f at h
  split at h
  · rename_i hs
    obtain ⟨rfl, rfl, hsz⟩ := hs
    cases hp : Lib.parseIntB 64 a0.data.toList with
    | ok v =>
      rw [hp] at h
      simp only [Option.some.injEq, Prod.mk.injEq] at h
      obtain ⟨rfl, rfl⟩ := h
      refine (Tryd.strconv_ParseInt_10_at64_ok a0 (by omega) v hp w).mono ?_
      rintro e w' ⟨rfl, hw⟩
      refine ⟨(0, .nilIface), rfl, ?_⟩
      rcases hw with rfl | ⟨t, rfl⟩
      · exact Below.refl _ _
      · exact bytes_below (Below.refl _ _) (Nat.le_refl _) _ t
    | «syntax» =>
      rw [hp] at h
      simp only [Option.some.injEq, Prod.mk.injEq] at h
      obtain ⟨rfl, rfl⟩ := h
      obtain ⟨u, v, hc⟩ := Laid.s5 hL
      refine (Tryd.strconv_ParseInt_10_at64_syntax a0 hsz hp _ w hc (.inr ⟨u, v, rfl⟩)).mono ?_
      rintro e w' ⟨N, rfl, _, _, hb⟩
      exact ⟨(_, _), rfl, hb⟩
    | range =>
      rw [hp] at h
      simp only [Option.some.injEq, Prod.mk.injEq] at h
      obtain ⟨rfl, rfl⟩ := h
      obtain ⟨u, v, hc⟩ := Laid.s6 hL
      refine (Tryd.strconv_ParseInt_10_at64_range a0 hsz hp _ w hc (.inr ⟨u, v, rfl⟩)).mono ?_
      rintro e w' ⟨N, rfl, _, _, hb⟩
      exact ⟨(_, _), rfl, hb⟩
  · cases h

end Go.Proofs.YtkdpkenhhcgnbaaDoor.PFnFfInt64Best
