-- Written for this claim by this session's own program (wip/xprint).
import Derived.Test.YtmbengbkeelpaaaPFnGjIfValidx0
import Derived.Test.YtmbengbkeelpaaaPFnGjIfValidx5
import Derived.Test.YtmbengbkeelpaaaPFnGjIfValidx6
import Derived.Test.YtmbengbkeelpaaaPFnGjIfValidx7
import Derived.Test.YtmbengbkeelpaaaPFnGjIfValidx8
namespace Go.Proofs.Ytmbengbkeelpaaa.PFnGjIfValid
open Go.RowKit Go.Proofs.YtmbengbkeelpaaaW.PrintWords Go.Proofs.YtmbengbkeelpaaaW.PrintLast Go.Proofs.YtmbengbkeelpaaaW.PrintMore
attribute [local go_sem] max2_int min2_int max_two min_two max_three min_three max_four min_four   -- for this text's walks alone
set_option linter.unusedVariables false
set_option linter.unusedSimpArgs false




/-! ### a group of functions that call each other: function 25, function 26, function 24 -/
mutual
def gjson_validobject.l0 : Nat → List Int → Int → Option (Int × Bool)
  | 0, _, _ => none
  | k + 1, x0, x1 => if x1 < (x0.length : Int) then (if 0 ≤ x1 then (if (rd x0 x1) = 32 then (gjson_validobject.j1 k x0 x1 (rd x0 x1) ((rd x0 x1) == 32)) else (if (rd x0 x1) = 9 then (gjson_validobject.j1 k x0 x1 (rd x0 x1) ((rd x0 x1) == 9)) else (if (rd x0 x1) = 10 then (gjson_validobject.j1 k x0 x1 (rd x0 x1) ((rd x0 x1) == 10)) else (gjson_validobject.j1 k x0 x1 (rd x0 x1) ((rd x0 x1) == 13))))) else (none)) else (some (x1, false))
def gjson_validobject.j1 : Nat → List Int → Int → Int → Bool → Option (Int × Bool)
  | 0, _, _, _, _ => none
  | k + 1, x0, x1, x15, x17 => if x17 = true then (gjson_validobject.l0 k x0 (wrap64 (x1 + 1))) else (if x15 = 125 then (some (wrap64 (x1 + 1), true)) else (if x15 = 34 then (gjson_validobject.l1 k x0 x1) else (some (x1, false))))
def gjson_validobject.l1 : Nat → List Int → Int → Option (Int × Bool)
  | 0, _, _ => none
  | k + 1, x0, x1 => (gjson_validstring.f k x0 (wrap64 (x1 + 1))).bind fun bt322 => (if bt322.2 = true then ((gjson_validcolon.f k x0 bt322.1).bind fun bt324 => (if bt324.2 = true then ((gjson_validany.f k x0 bt324.1).bind fun bt326 => (if bt326.2 = true then ((gjson_validcomma.f k x0 bt326.1 125).bind fun bt328 => (if bt328.2 = true then (if 0 ≤ bt328.1 then (if bt328.1 < (x0.length : Int) then (if (rd x0 bt328.1) = 125 then (some (wrap64 (bt328.1 + 1), true)) else (gjson_validobject.l2 k x0 (wrap64 (bt328.1 + 1)))) else (none)) else (none)) else (some (bt328.1, false)))) else (some (bt326.1, false)))) else (some (bt324.1, false)))) else (some (bt322.1, false)))
def gjson_validobject.l2 : Nat → List Int → Int → Option (Int × Bool)
  | 0, _, _ => none
  | k + 1, x0, x1 => if x1 < (x0.length : Int) then (if 0 ≤ x1 then (if (rd x0 x1) = 32 then (gjson_validobject.j4 k x0 x1 (rd x0 x1) ((rd x0 x1) == 32)) else (if (rd x0 x1) = 9 then (gjson_validobject.j4 k x0 x1 (rd x0 x1) ((rd x0 x1) == 9)) else (if (rd x0 x1) = 10 then (gjson_validobject.j4 k x0 x1 (rd x0 x1) ((rd x0 x1) == 10)) else (gjson_validobject.j4 k x0 x1 (rd x0 x1) ((rd x0 x1) == 13))))) else (none)) else (some (x1, false))
def gjson_validobject.j4 : Nat → List Int → Int → Int → Bool → Option (Int × Bool)
  | 0, _, _, _, _ => none
  | k + 1, x0, x1, x83, x85 => if x85 = true then (gjson_validobject.l2 k x0 (wrap64 (x1 + 1))) else (if x83 = 34 then (gjson_validobject.l1 k x0 x1) else (some (x1, false)))
def gjson_validobject.f : Nat → List Int → Int → Option (Int × Bool)
  | 0, _, _ => none
  | k + 1, l0, a1 => gjson_validobject.l0 k l0 a1
def gjson_validarray.l0 : Nat → List Int → Int → Option (Int × Bool)
  | 0, _, _ => none
  | k + 1, x0, x1 => if x1 < (x0.length : Int) then (if 0 ≤ x1 then (if (rd x0 x1) = 32 then (gjson_validarray.j1 k x0 x1 (rd x0 x1) ((rd x0 x1) == 32)) else (if (rd x0 x1) = 9 then (gjson_validarray.j1 k x0 x1 (rd x0 x1) ((rd x0 x1) == 9)) else (if (rd x0 x1) = 10 then (gjson_validarray.j1 k x0 x1 (rd x0 x1) ((rd x0 x1) == 10)) else (gjson_validarray.j1 k x0 x1 (rd x0 x1) ((rd x0 x1) == 13))))) else (none)) else (some (x1, false))
def gjson_validarray.j1 : Nat → List Int → Int → Int → Bool → Option (Int × Bool)
  | 0, _, _, _, _ => none
  | k + 1, x0, x1, x15, x47 => if x47 = true then (gjson_validarray.l0 k x0 (wrap64 (x1 + 1))) else (if x15 = 93 then (some (wrap64 (x1 + 1), true)) else (gjson_validarray.l1 k x0 x1))
def gjson_validarray.l1 : Nat → List Int → Int → Option (Int × Bool)
  | 0, _, _ => none
  | k + 1, x0, x1 => if x1 < (x0.length : Int) then ((gjson_validany.f k x0 x1).bind fun bt333 => (if bt333.2 = true then ((gjson_validcomma.f k x0 bt333.1 93).bind fun bt335 => (if bt335.2 = true then (if 0 ≤ bt335.1 then (if bt335.1 < (x0.length : Int) then (if (rd x0 bt335.1) = 93 then (some (wrap64 (bt335.1 + 1), true)) else (gjson_validarray.l1 k x0 (wrap64 (bt335.1 + 1)))) else (none)) else (none)) else (some (bt335.1, false)))) else (some (bt333.1, false)))) else (gjson_validarray.l0 k x0 (wrap64 (x1 + 1)))
def gjson_validarray.f : Nat → List Int → Int → Option (Int × Bool)
  | 0, _, _ => none
  | k + 1, l0, a1 => gjson_validarray.l0 k l0 a1
def gjson_validany.l0 : Nat → List Int → Int → Option (Int × Bool)
  | 0, _, _ => none
  | k + 1, x0, x1 => if x1 < (x0.length : Int) then (if 0 ≤ x1 then (if (rd x0 x1) = 32 then (gjson_validany.j1 k x0 x1 (rd x0 x1) ((rd x0 x1) == 32)) else (if (rd x0 x1) = 9 then (gjson_validany.j1 k x0 x1 (rd x0 x1) ((rd x0 x1) == 9)) else (if (rd x0 x1) = 10 then (gjson_validany.j1 k x0 x1 (rd x0 x1) ((rd x0 x1) == 10)) else (gjson_validany.j1 k x0 x1 (rd x0 x1) ((rd x0 x1) == 13))))) else (none)) else (some (x1, false))
def gjson_validany.j1 : Nat → List Int → Int → Int → Bool → Option (Int × Bool)
  | 0, _, _, _, _ => none
  | k + 1, x0, x1, x15, x17 => if x17 = true then (gjson_validany.l0 k x0 (wrap64 (x1 + 1))) else (if x15 = 123 then ((gjson_validobject.f k x0 (wrap64 (x1 + 1))).bind fun bt339 => (some (bt339.1, bt339.2))) else (if x15 = 91 then ((gjson_validarray.f k x0 (wrap64 (x1 + 1))).bind fun bt341 => (some (bt341.1, bt341.2))) else (if x15 = 34 then ((gjson_validstring.f k x0 (wrap64 (x1 + 1))).bind fun bt343 => (some (bt343.1, bt343.2))) else (if x15 = 45 then (gjson_validany.j2 k x0 x1 x15 (x15 == 45)) else (if x15 = 48 then (gjson_validany.j2 k x0 x1 x15 (x15 == 48)) else (if x15 = 49 then (gjson_validany.j2 k x0 x1 x15 (x15 == 49)) else (if x15 = 50 then (gjson_validany.j2 k x0 x1 x15 (x15 == 50)) else (if x15 = 51 then (gjson_validany.j2 k x0 x1 x15 (x15 == 51)) else (if x15 = 52 then (gjson_validany.j2 k x0 x1 x15 (x15 == 52)) else (if x15 = 53 then (gjson_validany.j2 k x0 x1 x15 (x15 == 53)) else (if x15 = 54 then (gjson_validany.j2 k x0 x1 x15 (x15 == 54)) else (if x15 = 55 then (gjson_validany.j2 k x0 x1 x15 (x15 == 55)) else (if x15 = 56 then (gjson_validany.j2 k x0 x1 x15 (x15 == 56)) else (gjson_validany.j2 k x0 x1 x15 (x15 == 57)))))))))))))))
def gjson_validany.j2 : Nat → List Int → Int → Int → Bool → Option (Int × Bool)
  | 0, _, _, _, _ => none
  | k + 1, x0, x1, x15, x46 => if x46 = true then ((gjson_validnumber.f k x0 (wrap64 (x1 + 1))).bind fun bt345 => (some (bt345.1, bt345.2))) else (if x15 = 116 then ((gjson_validtrue.f x0 (wrap64 (x1 + 1))).bind fun bt347 => (some (bt347.1, bt347.2))) else (if x15 = 102 then ((gjson_validfalse.f x0 (wrap64 (x1 + 1))).bind fun bt349 => (some (bt349.1, bt349.2))) else (if x15 = 110 then ((gjson_validnull.f x0 (wrap64 (x1 + 1))).bind fun bt351 => (some (bt351.1, bt351.2))) else (some (x1, false)))))
def gjson_validany.f : Nat → List Int → Int → Option (Int × Bool)
  | 0, _, _ => none
  | k + 1, l0, a1 => gjson_validany.l0 k l0 a1
end
theorem grp_gjson_validobject.mono_l : ∀ k, (∀ y0 y1, LeO (gjson_validobject.f k y0 y1) (gjson_validobject.f (k + 1) y0 y1)) ∧ (∀ y0 y1, LeO (gjson_validobject.l0 k y0 y1) (gjson_validobject.l0 (k + 1) y0 y1)) ∧ (∀ y0 y1 y2 y3, LeO (gjson_validobject.j1 k y0 y1 y2 y3) (gjson_validobject.j1 (k + 1) y0 y1 y2 y3)) ∧ (∀ y0 y1, LeO (gjson_validobject.l1 k y0 y1) (gjson_validobject.l1 (k + 1) y0 y1)) ∧ (∀ y0 y1, LeO (gjson_validobject.l2 k y0 y1) (gjson_validobject.l2 (k + 1) y0 y1)) ∧ (∀ y0 y1 y2 y3, LeO (gjson_validobject.j4 k y0 y1 y2 y3) (gjson_validobject.j4 (k + 1) y0 y1 y2 y3)) ∧ (∀ y0 y1, LeO (gjson_validarray.f k y0 y1) (gjson_validarray.f (k + 1) y0 y1)) ∧ (∀ y0 y1, LeO (gjson_validarray.l0 k y0 y1) (gjson_validarray.l0 (k + 1) y0 y1)) ∧ (∀ y0 y1 y2 y3, LeO (gjson_validarray.j1 k y0 y1 y2 y3) (gjson_validarray.j1 (k + 1) y0 y1 y2 y3)) ∧ (∀ y0 y1, LeO (gjson_validarray.l1 k y0 y1) (gjson_validarray.l1 (k + 1) y0 y1)) ∧ (∀ y0 y1, LeO (gjson_validany.f k y0 y1) (gjson_validany.f (k + 1) y0 y1)) ∧ (∀ y0 y1, LeO (gjson_validany.l0 k y0 y1) (gjson_validany.l0 (k + 1) y0 y1)) ∧ (∀ y0 y1 y2 y3, LeO (gjson_validany.j1 k y0 y1 y2 y3) (gjson_validany.j1 (k + 1) y0 y1 y2 y3)) ∧ (∀ y0 y1 y2 y3, LeO (gjson_validany.j2 k y0 y1 y2 y3) (gjson_validany.j2 (k + 1) y0 y1 y2 y3))
  | 0 => ⟨fun _ _ r h => by simp [gjson_validobject.f] at h, fun _ _ r h => by simp [gjson_validobject.l0] at h, fun _ _ _ _ r h => by simp [gjson_validobject.j1] at h, fun _ _ r h => by simp [gjson_validobject.l1] at h, fun _ _ r h => by simp [gjson_validobject.l2] at h, fun _ _ _ _ r h => by simp [gjson_validobject.j4] at h, fun _ _ r h => by simp [gjson_validarray.f] at h, fun _ _ r h => by simp [gjson_validarray.l0] at h, fun _ _ _ _ r h => by simp [gjson_validarray.j1] at h, fun _ _ r h => by simp [gjson_validarray.l1] at h, fun _ _ r h => by simp [gjson_validany.f] at h, fun _ _ r h => by simp [gjson_validany.l0] at h, fun _ _ _ _ r h => by simp [gjson_validany.j1] at h, fun _ _ _ _ r h => by simp [gjson_validany.j2] at h⟩
  | k + 1 => by
    obtain ⟨ih0, ih1, ih2, ih3, ih4, ih5, ih6, ih7, ih8, ih9, ih10, ih11, ih12, ih13⟩ := grp_gjson_validobject.mono_l k
    refine ⟨?_, ?_, ?_, ?_, ?_, ?_, ?_, ?_, ?_, ?_, ?_, ?_, ?_, ?_⟩
    · intro y0 y1
      unfold gjson_validobject.f
      repeat' first
      | (with_reducible exact ih0 _ _)
      | (with_reducible exact ih1 _ _)
      | (with_reducible exact ih2 _ _ _ _)
      | (with_reducible exact ih3 _ _)
      | (with_reducible exact ih4 _ _)
      | (with_reducible exact ih5 _ _ _ _)
      | (with_reducible exact ih6 _ _)
      | (with_reducible exact ih7 _ _)
      | (with_reducible exact ih8 _ _ _ _)
      | (with_reducible exact ih9 _ _)
      | (with_reducible exact ih10 _ _)
      | (with_reducible exact ih11 _ _)
      | (with_reducible exact ih12 _ _ _ _)
      | (with_reducible exact ih13 _ _ _ _)
      | (with_reducible exact gjson_validcolon.mono _ _ _)
      | (with_reducible exact gjson_validcomma.mono _ _ _ _)
      | (with_reducible exact gjson_validnumber.mono _ _ _)
      | (with_reducible exact gjson_validstring.mono _ _ _)
      | (with_reducible exact LeO.refl _)
      | (with_reducible exact LeO.none _)
      | (with_reducible refine LeO.ite ?_ ?_)
      | (with_reducible refine LeO.bind ?_ (fun _ => ?_))
      | exact ih0 _ _
      | exact ih1 _ _
      | exact ih2 _ _ _ _
      | exact ih3 _ _
      | exact ih4 _ _
      | exact ih5 _ _ _ _
      | exact ih6 _ _
      | exact ih7 _ _
      | exact ih8 _ _ _ _
      | exact ih9 _ _
      | exact ih10 _ _
      | exact ih11 _ _
      | exact ih12 _ _ _ _
      | exact ih13 _ _ _ _
      | exact gjson_validcolon.mono _ _ _
      | exact gjson_validcomma.mono _ _ _ _
      | exact gjson_validnumber.mono _ _ _
      | exact gjson_validstring.mono _ _ _
      | exact LeO.none _
      | refine LeO.ite ?_ ?_
      | refine LeO.bind ?_ (fun _ => ?_)
    · intro y0 y1
      unfold gjson_validobject.l0
      repeat' first
      | (with_reducible exact ih0 _ _)
      | (with_reducible exact ih1 _ _)
      | (with_reducible exact ih2 _ _ _ _)
      | (with_reducible exact ih3 _ _)
      | (with_reducible exact ih4 _ _)
      | (with_reducible exact ih5 _ _ _ _)
      | (with_reducible exact ih6 _ _)
      | (with_reducible exact ih7 _ _)
      | (with_reducible exact ih8 _ _ _ _)
      | (with_reducible exact ih9 _ _)
      | (with_reducible exact ih10 _ _)
      | (with_reducible exact ih11 _ _)
      | (with_reducible exact ih12 _ _ _ _)
      | (with_reducible exact ih13 _ _ _ _)
      | (with_reducible exact gjson_validcolon.mono _ _ _)
      | (with_reducible exact gjson_validcomma.mono _ _ _ _)
      | (with_reducible exact gjson_validnumber.mono _ _ _)
      | (with_reducible exact gjson_validstring.mono _ _ _)
      | (with_reducible exact LeO.refl _)
      | (with_reducible exact LeO.none _)
      | (with_reducible refine LeO.ite ?_ ?_)
      | (with_reducible refine LeO.bind ?_ (fun _ => ?_))
      | exact ih0 _ _
      | exact ih1 _ _
      | exact ih2 _ _ _ _
      | exact ih3 _ _
      | exact ih4 _ _
      | exact ih5 _ _ _ _
      | exact ih6 _ _
      | exact ih7 _ _
      | exact ih8 _ _ _ _
      | exact ih9 _ _
      | exact ih10 _ _
      | exact ih11 _ _
      | exact ih12 _ _ _ _
      | exact ih13 _ _ _ _
      | exact gjson_validcolon.mono _ _ _
      | exact gjson_validcomma.mono _ _ _ _
      | exact gjson_validnumber.mono _ _ _
      | exact gjson_validstring.mono _ _ _
      | exact LeO.none _
      | refine LeO.ite ?_ ?_
      | refine LeO.bind ?_ (fun _ => ?_)
    · intro y0 y1 y2 y3
      unfold gjson_validobject.j1
      repeat' first
      | (with_reducible exact ih0 _ _)
      | (with_reducible exact ih1 _ _)
      | (with_reducible exact ih2 _ _ _ _)
      | (with_reducible exact ih3 _ _)
      | (with_reducible exact ih4 _ _)
      | (with_reducible exact ih5 _ _ _ _)
      | (with_reducible exact ih6 _ _)
      | (with_reducible exact ih7 _ _)
      | (with_reducible exact ih8 _ _ _ _)
      | (with_reducible exact ih9 _ _)
      | (with_reducible exact ih10 _ _)
      | (with_reducible exact ih11 _ _)
      | (with_reducible exact ih12 _ _ _ _)
      | (with_reducible exact ih13 _ _ _ _)
      | (with_reducible exact gjson_validcolon.mono _ _ _)
      | (with_reducible exact gjson_validcomma.mono _ _ _ _)
      | (with_reducible exact gjson_validnumber.mono _ _ _)
      | (with_reducible exact gjson_validstring.mono _ _ _)
      | (with_reducible exact LeO.refl _)
      | (with_reducible exact LeO.none _)
      | (with_reducible refine LeO.ite ?_ ?_)
      | (with_reducible refine LeO.bind ?_ (fun _ => ?_))
      | exact ih0 _ _
      | exact ih1 _ _
      | exact ih2 _ _ _ _
      | exact ih3 _ _
      | exact ih4 _ _
      | exact ih5 _ _ _ _
      | exact ih6 _ _
      | exact ih7 _ _
      | exact ih8 _ _ _ _
      | exact ih9 _ _
      | exact ih10 _ _
      | exact ih11 _ _
      | exact ih12 _ _ _ _
      | exact ih13 _ _ _ _
      | exact gjson_validcolon.mono _ _ _
      | exact gjson_validcomma.mono _ _ _ _
      | exact gjson_validnumber.mono _ _ _
      | exact gjson_validstring.mono _ _ _
      | exact LeO.none _
      | refine LeO.ite ?_ ?_
      | refine LeO.bind ?_ (fun _ => ?_)
    · intro y0 y1
      unfold gjson_validobject.l1
      repeat' first
      | (with_reducible exact ih0 _ _)
      | (with_reducible exact ih1 _ _)
      | (with_reducible exact ih2 _ _ _ _)
      | (with_reducible exact ih3 _ _)
      | (with_reducible exact ih4 _ _)
      | (with_reducible exact ih5 _ _ _ _)
      | (with_reducible exact ih6 _ _)
      | (with_reducible exact ih7 _ _)
      | (with_reducible exact ih8 _ _ _ _)
      | (with_reducible exact ih9 _ _)
      | (with_reducible exact ih10 _ _)
      | (with_reducible exact ih11 _ _)
      | (with_reducible exact ih12 _ _ _ _)
      | (with_reducible exact ih13 _ _ _ _)
      | (with_reducible exact gjson_validcolon.mono _ _ _)
      | (with_reducible exact gjson_validcomma.mono _ _ _ _)
      | (with_reducible exact gjson_validnumber.mono _ _ _)
      | (with_reducible exact gjson_validstring.mono _ _ _)
      | (with_reducible exact LeO.refl _)
      | (with_reducible exact LeO.none _)
      | (with_reducible refine LeO.ite ?_ ?_)
      | (with_reducible refine LeO.bind ?_ (fun _ => ?_))
      | exact ih0 _ _
      | exact ih1 _ _
      | exact ih2 _ _ _ _
      | exact ih3 _ _
      | exact ih4 _ _
      | exact ih5 _ _ _ _
      | exact ih6 _ _
      | exact ih7 _ _
      | exact ih8 _ _ _ _
      | exact ih9 _ _
      | exact ih10 _ _
      | exact ih11 _ _
      | exact ih12 _ _ _ _
      | exact ih13 _ _ _ _
      | exact gjson_validcolon.mono _ _ _
      | exact gjson_validcomma.mono _ _ _ _
      | exact gjson_validnumber.mono _ _ _
      | exact gjson_validstring.mono _ _ _
      | exact LeO.none _
      | refine LeO.ite ?_ ?_
      | refine LeO.bind ?_ (fun _ => ?_)
    · intro y0 y1
      unfold gjson_validobject.l2
      repeat' first
      | (with_reducible exact ih0 _ _)
      | (with_reducible exact ih1 _ _)
      | (with_reducible exact ih2 _ _ _ _)
      | (with_reducible exact ih3 _ _)
      | (with_reducible exact ih4 _ _)
      | (with_reducible exact ih5 _ _ _ _)
      | (with_reducible exact ih6 _ _)
      | (with_reducible exact ih7 _ _)
      | (with_reducible exact ih8 _ _ _ _)
      | (with_reducible exact ih9 _ _)
      | (with_reducible exact ih10 _ _)
      | (with_reducible exact ih11 _ _)
      | (with_reducible exact ih12 _ _ _ _)
      | (with_reducible exact ih13 _ _ _ _)
      | (with_reducible exact gjson_validcolon.mono _ _ _)
      | (with_reducible exact gjson_validcomma.mono _ _ _ _)
      | (with_reducible exact gjson_validnumber.mono _ _ _)
      | (with_reducible exact gjson_validstring.mono _ _ _)
      | (with_reducible exact LeO.refl _)
      | (with_reducible exact LeO.none _)
      | (with_reducible refine LeO.ite ?_ ?_)
      | (with_reducible refine LeO.bind ?_ (fun _ => ?_))
      | exact ih0 _ _
      | exact ih1 _ _
      | exact ih2 _ _ _ _
      | exact ih3 _ _
      | exact ih4 _ _
      | exact ih5 _ _ _ _
      | exact ih6 _ _
      | exact ih7 _ _
      | exact ih8 _ _ _ _
      | exact ih9 _ _
      | exact ih10 _ _
      | exact ih11 _ _
      | exact ih12 _ _ _ _
      | exact ih13 _ _ _ _
      | exact gjson_validcolon.mono _ _ _
      | exact gjson_validcomma.mono _ _ _ _
      | exact gjson_validnumber.mono _ _ _
      | exact gjson_validstring.mono _ _ _
      | exact LeO.none _
      | refine LeO.ite ?_ ?_
      | refine LeO.bind ?_ (fun _ => ?_)
    · intro y0 y1 y2 y3
      unfold gjson_validobject.j4
      repeat' first
      | (with_reducible exact ih0 _ _)
      | (with_reducible exact ih1 _ _)
      | (with_reducible exact ih2 _ _ _ _)
      | (with_reducible exact ih3 _ _)
      | (with_reducible exact ih4 _ _)
      | (with_reducible exact ih5 _ _ _ _)
      | (with_reducible exact ih6 _ _)
      | (with_reducible exact ih7 _ _)
      | (with_reducible exact ih8 _ _ _ _)
      | (with_reducible exact ih9 _ _)
      | (with_reducible exact ih10 _ _)
      | (with_reducible exact ih11 _ _)
      | (with_reducible exact ih12 _ _ _ _)
      | (with_reducible exact ih13 _ _ _ _)
      | (with_reducible exact gjson_validcolon.mono _ _ _)
      | (with_reducible exact gjson_validcomma.mono _ _ _ _)
      | (with_reducible exact gjson_validnumber.mono _ _ _)
      | (with_reducible exact gjson_validstring.mono _ _ _)
      | (with_reducible exact LeO.refl _)
      | (with_reducible exact LeO.none _)
      | (with_reducible refine LeO.ite ?_ ?_)
      | (with_reducible refine LeO.bind ?_ (fun _ => ?_))
      | exact ih0 _ _
      | exact ih1 _ _
      | exact ih2 _ _ _ _
      | exact ih3 _ _
      | exact ih4 _ _
      | exact ih5 _ _ _ _
      | exact ih6 _ _
      | exact ih7 _ _
      | exact ih8 _ _ _ _
      | exact ih9 _ _
      | exact ih10 _ _
      | exact ih11 _ _
      | exact ih12 _ _ _ _
      | exact ih13 _ _ _ _
      | exact gjson_validcolon.mono _ _ _
      | exact gjson_validcomma.mono _ _ _ _
      | exact gjson_validnumber.mono _ _ _
      | exact gjson_validstring.mono _ _ _
      | exact LeO.none _
      | refine LeO.ite ?_ ?_
      | refine LeO.bind ?_ (fun _ => ?_)
    · intro y0 y1
      unfold gjson_validarray.f
      repeat' first
      | (with_reducible exact ih0 _ _)
      | (with_reducible exact ih1 _ _)
      | (with_reducible exact ih2 _ _ _ _)
      | (with_reducible exact ih3 _ _)
      | (with_reducible exact ih4 _ _)
      | (with_reducible exact ih5 _ _ _ _)
      | (with_reducible exact ih6 _ _)
      | (with_reducible exact ih7 _ _)
      | (with_reducible exact ih8 _ _ _ _)
      | (with_reducible exact ih9 _ _)
      | (with_reducible exact ih10 _ _)
      | (with_reducible exact ih11 _ _)
      | (with_reducible exact ih12 _ _ _ _)
      | (with_reducible exact ih13 _ _ _ _)
      | (with_reducible exact gjson_validcolon.mono _ _ _)
      | (with_reducible exact gjson_validcomma.mono _ _ _ _)
      | (with_reducible exact gjson_validnumber.mono _ _ _)
      | (with_reducible exact gjson_validstring.mono _ _ _)
      | (with_reducible exact LeO.refl _)
      | (with_reducible exact LeO.none _)
      | (with_reducible refine LeO.ite ?_ ?_)
      | (with_reducible refine LeO.bind ?_ (fun _ => ?_))
      | exact ih0 _ _
      | exact ih1 _ _
      | exact ih2 _ _ _ _
      | exact ih3 _ _
      | exact ih4 _ _
      | exact ih5 _ _ _ _
      | exact ih6 _ _
      | exact ih7 _ _
      | exact ih8 _ _ _ _
      | exact ih9 _ _
      | exact ih10 _ _
      | exact ih11 _ _
      | exact ih12 _ _ _ _
      | exact ih13 _ _ _ _
      | exact gjson_validcolon.mono _ _ _
      | exact gjson_validcomma.mono _ _ _ _
      | exact gjson_validnumber.mono _ _ _
      | exact gjson_validstring.mono _ _ _
      | exact LeO.none _
      | refine LeO.ite ?_ ?_
      | refine LeO.bind ?_ (fun _ => ?_)
    · intro y0 y1
      unfold gjson_validarray.l0
      repeat' first
      | (with_reducible exact ih0 _ _)
      | (with_reducible exact ih1 _ _)
      | (with_reducible exact ih2 _ _ _ _)
      | (with_reducible exact ih3 _ _)
      | (with_reducible exact ih4 _ _)
      | (with_reducible exact ih5 _ _ _ _)
      | (with_reducible exact ih6 _ _)
      | (with_reducible exact ih7 _ _)
      | (with_reducible exact ih8 _ _ _ _)
      | (with_reducible exact ih9 _ _)
      | (with_reducible exact ih10 _ _)
      | (with_reducible exact ih11 _ _)
      | (with_reducible exact ih12 _ _ _ _)
      | (with_reducible exact ih13 _ _ _ _)
      | (with_reducible exact gjson_validcolon.mono _ _ _)
      | (with_reducible exact gjson_validcomma.mono _ _ _ _)
      | (with_reducible exact gjson_validnumber.mono _ _ _)
      | (with_reducible exact gjson_validstring.mono _ _ _)
      | (with_reducible exact LeO.refl _)
      | (with_reducible exact LeO.none _)
      | (with_reducible refine LeO.ite ?_ ?_)
      | (with_reducible refine LeO.bind ?_ (fun _ => ?_))
      | exact ih0 _ _
      | exact ih1 _ _
      | exact ih2 _ _ _ _
      | exact ih3 _ _
      | exact ih4 _ _
      | exact ih5 _ _ _ _
      | exact ih6 _ _
      | exact ih7 _ _
      | exact ih8 _ _ _ _
      | exact ih9 _ _
      | exact ih10 _ _
      | exact ih11 _ _
      | exact ih12 _ _ _ _
      | exact ih13 _ _ _ _
      | exact gjson_validcolon.mono _ _ _
      | exact gjson_validcomma.mono _ _ _ _
      | exact gjson_validnumber.mono _ _ _
      | exact gjson_validstring.mono _ _ _
      | exact LeO.none _
      | refine LeO.ite ?_ ?_
      | refine LeO.bind ?_ (fun _ => ?_)
    · intro y0 y1 y2 y3
      unfold gjson_validarray.j1
      repeat' first
      | (with_reducible exact ih0 _ _)
      | (with_reducible exact ih1 _ _)
      | (with_reducible exact ih2 _ _ _ _)
      | (with_reducible exact ih3 _ _)
      | (with_reducible exact ih4 _ _)
      | (with_reducible exact ih5 _ _ _ _)
      | (with_reducible exact ih6 _ _)
      | (with_reducible exact ih7 _ _)
      | (with_reducible exact ih8 _ _ _ _)
      | (with_reducible exact ih9 _ _)
      | (with_reducible exact ih10 _ _)
      | (with_reducible exact ih11 _ _)
      | (with_reducible exact ih12 _ _ _ _)
      | (with_reducible exact ih13 _ _ _ _)
      | (with_reducible exact gjson_validcolon.mono _ _ _)
      | (with_reducible exact gjson_validcomma.mono _ _ _ _)
      | (with_reducible exact gjson_validnumber.mono _ _ _)
      | (with_reducible exact gjson_validstring.mono _ _ _)
      | (with_reducible exact LeO.refl _)
      | (with_reducible exact LeO.none _)
      | (with_reducible refine LeO.ite ?_ ?_)
      | (with_reducible refine LeO.bind ?_ (fun _ => ?_))
      | exact ih0 _ _
      | exact ih1 _ _
      | exact ih2 _ _ _ _
      | exact ih3 _ _
      | exact ih4 _ _
      | exact ih5 _ _ _ _
      | exact ih6 _ _
      | exact ih7 _ _
      | exact ih8 _ _ _ _
      | exact ih9 _ _
      | exact ih10 _ _
      | exact ih11 _ _
      | exact ih12 _ _ _ _
      | exact ih13 _ _ _ _
      | exact gjson_validcolon.mono _ _ _
      | exact gjson_validcomma.mono _ _ _ _
      | exact gjson_validnumber.mono _ _ _
      | exact gjson_validstring.mono _ _ _
      | exact LeO.none _
      | refine LeO.ite ?_ ?_
      | refine LeO.bind ?_ (fun _ => ?_)
    · intro y0 y1
      unfold gjson_validarray.l1
      repeat' first
      | (with_reducible exact ih0 _ _)
      | (with_reducible exact ih1 _ _)
      | (with_reducible exact ih2 _ _ _ _)
      | (with_reducible exact ih3 _ _)
      | (with_reducible exact ih4 _ _)
      | (with_reducible exact ih5 _ _ _ _)
      | (with_reducible exact ih6 _ _)
      | (with_reducible exact ih7 _ _)
      | (with_reducible exact ih8 _ _ _ _)
      | (with_reducible exact ih9 _ _)
      | (with_reducible exact ih10 _ _)
      | (with_reducible exact ih11 _ _)
      | (with_reducible exact ih12 _ _ _ _)
      | (with_reducible exact ih13 _ _ _ _)
      | (with_reducible exact gjson_validcolon.mono _ _ _)
      | (with_reducible exact gjson_validcomma.mono _ _ _ _)
      | (with_reducible exact gjson_validnumber.mono _ _ _)
      | (with_reducible exact gjson_validstring.mono _ _ _)
      | (with_reducible exact LeO.refl _)
      | (with_reducible exact LeO.none _)
      | (with_reducible refine LeO.ite ?_ ?_)
      | (with_reducible refine LeO.bind ?_ (fun _ => ?_))
      | exact ih0 _ _
      | exact ih1 _ _
      | exact ih2 _ _ _ _
      | exact ih3 _ _
      | exact ih4 _ _
      | exact ih5 _ _ _ _
      | exact ih6 _ _
      | exact ih7 _ _
      | exact ih8 _ _ _ _
      | exact ih9 _ _
      | exact ih10 _ _
      | exact ih11 _ _
      | exact ih12 _ _ _ _
      | exact ih13 _ _ _ _
      | exact gjson_validcolon.mono _ _ _
      | exact gjson_validcomma.mono _ _ _ _
      | exact gjson_validnumber.mono _ _ _
      | exact gjson_validstring.mono _ _ _
      | exact LeO.none _
      | refine LeO.ite ?_ ?_
      | refine LeO.bind ?_ (fun _ => ?_)
    · intro y0 y1
      unfold gjson_validany.f
      repeat' first
      | (with_reducible exact ih0 _ _)
      | (with_reducible exact ih1 _ _)
      | (with_reducible exact ih2 _ _ _ _)
      | (with_reducible exact ih3 _ _)
      | (with_reducible exact ih4 _ _)
      | (with_reducible exact ih5 _ _ _ _)
      | (with_reducible exact ih6 _ _)
      | (with_reducible exact ih7 _ _)
      | (with_reducible exact ih8 _ _ _ _)
      | (with_reducible exact ih9 _ _)
      | (with_reducible exact ih10 _ _)
      | (with_reducible exact ih11 _ _)
      | (with_reducible exact ih12 _ _ _ _)
      | (with_reducible exact ih13 _ _ _ _)
      | (with_reducible exact gjson_validcolon.mono _ _ _)
      | (with_reducible exact gjson_validcomma.mono _ _ _ _)
      | (with_reducible exact gjson_validnumber.mono _ _ _)
      | (with_reducible exact gjson_validstring.mono _ _ _)
      | (with_reducible exact LeO.refl _)
      | (with_reducible exact LeO.none _)
      | (with_reducible refine LeO.ite ?_ ?_)
      | (with_reducible refine LeO.bind ?_ (fun _ => ?_))
      | exact ih0 _ _
      | exact ih1 _ _
      | exact ih2 _ _ _ _
      | exact ih3 _ _
      | exact ih4 _ _
      | exact ih5 _ _ _ _
      | exact ih6 _ _
      | exact ih7 _ _
      | exact ih8 _ _ _ _
      | exact ih9 _ _
      | exact ih10 _ _
      | exact ih11 _ _
      | exact ih12 _ _ _ _
      | exact ih13 _ _ _ _
      | exact gjson_validcolon.mono _ _ _
      | exact gjson_validcomma.mono _ _ _ _
      | exact gjson_validnumber.mono _ _ _
      | exact gjson_validstring.mono _ _ _
      | exact LeO.none _
      | refine LeO.ite ?_ ?_
      | refine LeO.bind ?_ (fun _ => ?_)
    · intro y0 y1
      unfold gjson_validany.l0
      repeat' first
      | (with_reducible exact ih0 _ _)
      | (with_reducible exact ih1 _ _)
      | (with_reducible exact ih2 _ _ _ _)
      | (with_reducible exact ih3 _ _)
      | (with_reducible exact ih4 _ _)
      | (with_reducible exact ih5 _ _ _ _)
      | (with_reducible exact ih6 _ _)
      | (with_reducible exact ih7 _ _)
      | (with_reducible exact ih8 _ _ _ _)
      | (with_reducible exact ih9 _ _)
      | (with_reducible exact ih10 _ _)
      | (with_reducible exact ih11 _ _)
      | (with_reducible exact ih12 _ _ _ _)
      | (with_reducible exact ih13 _ _ _ _)
      | (with_reducible exact gjson_validcolon.mono _ _ _)
      | (with_reducible exact gjson_validcomma.mono _ _ _ _)
      | (with_reducible exact gjson_validnumber.mono _ _ _)
      | (with_reducible exact gjson_validstring.mono _ _ _)
      | (with_reducible exact LeO.refl _)
      | (with_reducible exact LeO.none _)
      | (with_reducible refine LeO.ite ?_ ?_)
      | (with_reducible refine LeO.bind ?_ (fun _ => ?_))
      | exact ih0 _ _
      | exact ih1 _ _
      | exact ih2 _ _ _ _
      | exact ih3 _ _
      | exact ih4 _ _
      | exact ih5 _ _ _ _
      | exact ih6 _ _
      | exact ih7 _ _
      | exact ih8 _ _ _ _
      | exact ih9 _ _
      | exact ih10 _ _
      | exact ih11 _ _
      | exact ih12 _ _ _ _
      | exact ih13 _ _ _ _
      | exact gjson_validcolon.mono _ _ _
      | exact gjson_validcomma.mono _ _ _ _
      | exact gjson_validnumber.mono _ _ _
      | exact gjson_validstring.mono _ _ _
      | exact LeO.none _
      | refine LeO.ite ?_ ?_
      | refine LeO.bind ?_ (fun _ => ?_)
    · intro y0 y1 y2 y3
      unfold gjson_validany.j1
      repeat' first
      | (with_reducible exact ih0 _ _)
      | (with_reducible exact ih1 _ _)
      | (with_reducible exact ih2 _ _ _ _)
      | (with_reducible exact ih3 _ _)
      | (with_reducible exact ih4 _ _)
      | (with_reducible exact ih5 _ _ _ _)
      | (with_reducible exact ih6 _ _)
      | (with_reducible exact ih7 _ _)
      | (with_reducible exact ih8 _ _ _ _)
      | (with_reducible exact ih9 _ _)
      | (with_reducible exact ih10 _ _)
      | (with_reducible exact ih11 _ _)
      | (with_reducible exact ih12 _ _ _ _)
      | (with_reducible exact ih13 _ _ _ _)
      | (with_reducible exact gjson_validcolon.mono _ _ _)
      | (with_reducible exact gjson_validcomma.mono _ _ _ _)
      | (with_reducible exact gjson_validnumber.mono _ _ _)
      | (with_reducible exact gjson_validstring.mono _ _ _)
      | (with_reducible exact LeO.refl _)
      | (with_reducible exact LeO.none _)
      | (with_reducible refine LeO.ite ?_ ?_)
      | (with_reducible refine LeO.bind ?_ (fun _ => ?_))
      | exact ih0 _ _
      | exact ih1 _ _
      | exact ih2 _ _ _ _
      | exact ih3 _ _
      | exact ih4 _ _
      | exact ih5 _ _ _ _
      | exact ih6 _ _
      | exact ih7 _ _
      | exact ih8 _ _ _ _
      | exact ih9 _ _
      | exact ih10 _ _
      | exact ih11 _ _
      | exact ih12 _ _ _ _
      | exact ih13 _ _ _ _
      | exact gjson_validcolon.mono _ _ _
      | exact gjson_validcomma.mono _ _ _ _
      | exact gjson_validnumber.mono _ _ _
      | exact gjson_validstring.mono _ _ _
      | exact LeO.none _
      | refine LeO.ite ?_ ?_
      | refine LeO.bind ?_ (fun _ => ?_)
    · intro y0 y1 y2 y3
      unfold gjson_validany.j2
      repeat' first
      | (with_reducible exact ih0 _ _)
      | (with_reducible exact ih1 _ _)
      | (with_reducible exact ih2 _ _ _ _)
      | (with_reducible exact ih3 _ _)
      | (with_reducible exact ih4 _ _)
      | (with_reducible exact ih5 _ _ _ _)
      | (with_reducible exact ih6 _ _)
      | (with_reducible exact ih7 _ _)
      | (with_reducible exact ih8 _ _ _ _)
      | (with_reducible exact ih9 _ _)
      | (with_reducible exact ih10 _ _)
      | (with_reducible exact ih11 _ _)
      | (with_reducible exact ih12 _ _ _ _)
      | (with_reducible exact ih13 _ _ _ _)
      | (with_reducible exact gjson_validcolon.mono _ _ _)
      | (with_reducible exact gjson_validcomma.mono _ _ _ _)
      | (with_reducible exact gjson_validnumber.mono _ _ _)
      | (with_reducible exact gjson_validstring.mono _ _ _)
      | (with_reducible exact LeO.refl _)
      | (with_reducible exact LeO.none _)
      | (with_reducible refine LeO.ite ?_ ?_)
      | (with_reducible refine LeO.bind ?_ (fun _ => ?_))
      | exact ih0 _ _
      | exact ih1 _ _
      | exact ih2 _ _ _ _
      | exact ih3 _ _
      | exact ih4 _ _
      | exact ih5 _ _ _ _
      | exact ih6 _ _
      | exact ih7 _ _
      | exact ih8 _ _ _ _
      | exact ih9 _ _
      | exact ih10 _ _
      | exact ih11 _ _
      | exact ih12 _ _ _ _
      | exact ih13 _ _ _ _
      | exact gjson_validcolon.mono _ _ _
      | exact gjson_validcomma.mono _ _ _ _
      | exact gjson_validnumber.mono _ _ _
      | exact gjson_validstring.mono _ _ _
      | exact LeO.none _
      | refine LeO.ite ?_ ?_
      | refine LeO.bind ?_ (fun _ => ?_)
theorem gjson_validobject.mono : ∀ a0 a1 k, LeO (gjson_validobject.f k a0 a1) (gjson_validobject.f (k + 1) a0 a1) := by
  intro a0 a1 k
  obtain ⟨ih0, ih1, ih2, ih3, ih4, ih5, ih6, ih7, ih8, ih9, ih10, ih11, ih12, ih13⟩ := grp_gjson_validobject.mono_l k
  exact ih0 a0 a1
theorem gjson_validarray.mono : ∀ a0 a1 k, LeO (gjson_validarray.f k a0 a1) (gjson_validarray.f (k + 1) a0 a1) := by
  intro a0 a1 k
  obtain ⟨ih0, ih1, ih2, ih3, ih4, ih5, ih6, ih7, ih8, ih9, ih10, ih11, ih12, ih13⟩ := grp_gjson_validobject.mono_l k
  exact ih6 a0 a1
theorem gjson_validany.mono : ∀ a0 a1 k, LeO (gjson_validany.f k a0 a1) (gjson_validany.f (k + 1) a0 a1) := by
  intro a0 a1 k
  obtain ⟨ih0, ih1, ih2, ih3, ih4, ih5, ih6, ih7, ih8, ih9, ih10, ih11, ih12, ih13⟩ := grp_gjson_validobject.mono_l k
  exact ih10 a0 a1
abbrev gjson_validobject.At (k : Nat) : Prop := ∀ (A0 : Option Addr) (c0 : Nat) (l0 : List Int) (a1 : Int) (r1 : Int) (r2 : Bool) (w : World) (hr0 : Kd.C (Kd.int .u8) w A0 l0.length l0) (hc0 : l0.length ≤ c0) (h : gjson_validobject.f k l0 a1 = some (r1, r2)),
    Calls Try.prog 25 #[.slice A0 l0.length c0, .int .i64 a1] w fun e w' => e = .returned (.tuple #[.int .i64 r1, .bool r2]) ∧ Below w.heap.size w w'
abbrev gjson_validarray.At (k : Nat) : Prop := ∀ (A0 : Option Addr) (c0 : Nat) (l0 : List Int) (a1 : Int) (r1 : Int) (r2 : Bool) (w : World) (hr0 : Kd.C (Kd.int .u8) w A0 l0.length l0) (hc0 : l0.length ≤ c0) (h : gjson_validarray.f k l0 a1 = some (r1, r2)),
    Calls Try.prog 26 #[.slice A0 l0.length c0, .int .i64 a1] w fun e w' => e = .returned (.tuple #[.int .i64 r1, .bool r2]) ∧ Below w.heap.size w w'
abbrev gjson_validany.At (k : Nat) : Prop := ∀ (A0 : Option Addr) (c0 : Nat) (l0 : List Int) (a1 : Int) (r1 : Int) (r2 : Bool) (w : World) (hr0 : Kd.C (Kd.int .u8) w A0 l0.length l0) (hc0 : l0.length ≤ c0) (h : gjson_validany.f k l0 a1 = some (r1, r2)),
    Calls Try.prog 24 #[.slice A0 l0.length c0, .int .i64 a1] w fun e w' => e = .returned (.tuple #[.int .i64 r1, .bool r2]) ∧ Below w.heap.size w w'

end Go.Proofs.Ytmbengbkeelpaaa.PFnGjIfValid
