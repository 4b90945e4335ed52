-- Written for this claim by this session's own program (wip/xprint).
import Derived.Test.YtfmllmlloekojaaDoorPFnFjCheckMembersx0
namespace Go.Proofs.YtfmllmlloekojaaDoor.PFnFjCheckMembers
open Go.RowKit Go.Proofs.YtfmllmlloekojaaDoorW.PrintWords Go.Proofs.YtfmllmlloekojaaDoorW.PrintLast Go.Proofs.YtfmllmlloekojaaDoorW.PrintMore
attribute [local go_sem] max2_int min2_int max_two min_two max_three min_three max_four min_four   -- for this text's walks alone
set_option linter.unusedVariables false
set_option linter.unusedSimpArgs false

/-! ### fastjson_validateNumber: function 111 -/
mutual
def fastjson_validateNumber.j0 : Nat → ByteArray → Option (ByteArray × Option Int)
  | 0, _ => none
  | k + 1, x0 => fastjson_validateNumber.l0 k x0 0
def fastjson_validateNumber.j2 : Nat → ByteArray → Int → Option (ByteArray × Option Int)
  | 0, _, _ => none
  | k + 1, x0, x4 => if x4 ≤ 0 then ((errors_New.f (⟨#[101, 120, 112, 101, 99, 116, 105, 110, 103, 32, 48, 46, 46, 57, 32, 100, 105, 103, 105, 116, 44, 32, 103, 111, 116]⟩ : ByteArray)).bind fun t134 => (some (x0, t134))) else (if 0 < (x0.size : Int) then (if (bt x0 0) = 48 then (fastjson_validateNumber.j3 k x0 x4 (x4 != 1)) else (fastjson_validateNumber.j3 k x0 x4 false)) else (none))
def fastjson_validateNumber.j3 : Nat → ByteArray → Int → Bool → Option (ByteArray × Option Int)
  | 0, _, _, _ => none
  | k + 1, x0, x4, x46 => if x46 = true then ((errors_New.f (⟨#[117, 110, 101, 120, 112, 101, 99, 116, 101, 100, 32, 110, 117, 109, 98, 101, 114, 32, 115, 116, 97, 114, 116, 105, 110, 103, 32, 102, 114, 111, 109, 32, 48]⟩ : ByteArray)).bind fun t135 => (some (x0, t135))) else (if x4 ≥ (x0.size : Int) then (some ((⟨#[]⟩ : ByteArray), none)) else (if 0 ≤ x4 then (if x4 < (x0.size : Int) then (if (bt x0 x4) = 46 then (if 0 ≤ (wrap64 (x4 + 1)) then (if (wrap64 (x4 + 1)) ≤ (x0.size : Int) then (if ((x0.extract ((wrap64 (x4 + 1)) : Int).toNat x0.size).size : Int) = 0 then ((errors_New.f (⟨#[109, 105, 115, 115, 105, 110, 103, 32, 102, 114, 97, 99, 116, 105, 111, 110, 97, 108, 32, 112, 97, 114, 116]⟩ : ByteArray)).bind fun t136 => (some (x0.extract ((wrap64 (x4 + 1)) : Int).toNat x0.size, t136))) else (fastjson_validateNumber.l1 k (x0.extract ((wrap64 (x4 + 1)) : Int).toNat x0.size) 0)) else (none)) else (none)) else (fastjson_validateNumber.j6 k x0 x4)) else (none)) else (none)))
def fastjson_validateNumber.j6 : Nat → ByteArray → Int → Option (ByteArray × Option Int)
  | 0, _, _ => none
  | k + 1, x0, x4 => if 0 ≤ x4 then (if x4 < (x0.size : Int) then (if (bt x0 x4) = 101 then (fastjson_validateNumber.j7 k x0 x4 true) else (fastjson_validateNumber.j7 k x0 x4 ((bt x0 x4) == 69))) else (none)) else (none)
def fastjson_validateNumber.j7 : Nat → ByteArray → Int → Bool → Option (ByteArray × Option Int)
  | 0, _, _, _ => none
  | k + 1, x0, x4, x99 => if x99 = true then (if 0 ≤ (wrap64 (x4 + 1)) then (if (wrap64 (x4 + 1)) ≤ (x0.size : Int) then (if ((x0.extract ((wrap64 (x4 + 1)) : Int).toNat x0.size).size : Int) = 0 then ((errors_New.f (⟨#[109, 105, 115, 115, 105, 110, 103, 32, 101, 120, 112, 111, 110, 101, 110, 116, 32, 112, 97, 114, 116]⟩ : ByteArray)).bind fun t138 => (some (x0.extract ((wrap64 (x4 + 1)) : Int).toNat x0.size, t138))) else (if 0 < ((x0.extract ((wrap64 (x4 + 1)) : Int).toNat x0.size).size : Int) then (if (bt (x0.extract ((wrap64 (x4 + 1)) : Int).toNat x0.size) 0) = 45 then (fastjson_validateNumber.j8 k (x0.extract ((wrap64 (x4 + 1)) : Int).toNat x0.size) true) else (fastjson_validateNumber.j8 k (x0.extract ((wrap64 (x4 + 1)) : Int).toNat x0.size) ((bt (x0.extract ((wrap64 (x4 + 1)) : Int).toNat x0.size) 0) == 43))) else (none))) else (none)) else (none)) else (if 0 ≤ x4 then (if x4 ≤ (x0.size : Int) then (some (x0.extract (x4 : Int).toNat x0.size, none)) else (none)) else (none))
def fastjson_validateNumber.j8 : Nat → ByteArray → Bool → Option (ByteArray × Option Int)
  | 0, _, _ => none
  | k + 1, x0, x116 => if x116 = true then (if 1 ≤ (x0.size : Int) then (if ((x0.extract 1 x0.size).size : Int) = 0 then ((errors_New.f (⟨#[109, 105, 115, 115, 105, 110, 103, 32, 101, 120, 112, 111, 110, 101, 110, 116, 32, 112, 97, 114, 116]⟩ : ByteArray)).bind fun t139 => (some (x0.extract 1 x0.size, t139))) else (fastjson_validateNumber.j9 k (x0.extract 1 x0.size))) else (none)) else (fastjson_validateNumber.j9 k x0)
def fastjson_validateNumber.j9 : Nat → ByteArray → Option (ByteArray × Option Int)
  | 0, _ => none
  | k + 1, x0 => fastjson_validateNumber.l2 k x0 0
def fastjson_validateNumber.j11 : Nat → ByteArray → Int → Option (ByteArray × Option Int)
  | 0, _, _ => none
  | k + 1, x0, x4 => if x4 = 0 then ((errors_New.f (⟨#[101, 120, 112, 101, 99, 116, 105, 110, 103, 32, 48, 46, 46, 57, 32, 100, 105, 103, 105, 116, 32, 105, 110, 32, 101, 120, 112, 111, 110, 101, 110, 116, 32, 112, 97, 114, 116, 44, 32, 103, 111, 116]⟩ : ByteArray)).bind fun t140 => (some (x0, t140))) else (if x4 ≥ (x0.size : Int) then (some ((⟨#[]⟩ : ByteArray), none)) else (if 0 ≤ x4 then (if x4 ≤ (x0.size : Int) then (some (x0.extract (x4 : Int).toNat x0.size, none)) else (none)) else (none)))
def fastjson_validateNumber.l2 : Nat → ByteArray → Int → Option (ByteArray × Option Int)
  | 0, _, _ => none
  | k + 1, x0, x4 => if x4 < (x0.size : Int) then (if 0 ≤ x4 then (if (bt x0 x4) < 48 then (fastjson_validateNumber.j11 k x0 x4) else (if (bt x0 x4) > 57 then (fastjson_validateNumber.j11 k x0 x4) else (fastjson_validateNumber.l2 k x0 (wrap64 (x4 + 1))))) else (none)) else (fastjson_validateNumber.j11 k x0 x4)
def fastjson_validateNumber.j5 : Nat → ByteArray → Int → Option (ByteArray × Option Int)
  | 0, _, _ => none
  | k + 1, x0, x4 => if x4 = 0 then ((errors_New.f (⟨#[101, 120, 112, 101, 99, 116, 105, 110, 103, 32, 48, 46, 46, 57, 32, 100, 105, 103, 105, 116, 32, 105, 110, 32, 102, 114, 97, 99, 116, 105, 111, 110, 97, 108, 32, 112, 97, 114, 116, 44, 32, 103, 111, 116]⟩ : ByteArray)).bind fun t137 => (some (x0, t137))) else (if x4 ≥ (x0.size : Int) then (some ((⟨#[]⟩ : ByteArray), none)) else (fastjson_validateNumber.j6 k x0 x4))
def fastjson_validateNumber.l1 : Nat → ByteArray → Int → Option (ByteArray × Option Int)
  | 0, _, _ => none
  | k + 1, x0, x4 => if x4 < (x0.size : Int) then (if 0 ≤ x4 then (if (bt x0 x4) < 48 then (fastjson_validateNumber.j5 k x0 x4) else (if (bt x0 x4) > 57 then (fastjson_validateNumber.j5 k x0 x4) else (fastjson_validateNumber.l1 k x0 (wrap64 (x4 + 1))))) else (none)) else (fastjson_validateNumber.j5 k x0 x4)
def fastjson_validateNumber.l0 : Nat → ByteArray → Int → Option (ByteArray × Option Int)
  | 0, _, _ => none
  | k + 1, x0, x4 => if x4 < (x0.size : Int) then (if 0 ≤ x4 then (if (bt x0 x4) < 48 then (fastjson_validateNumber.j2 k x0 x4) else (if (bt x0 x4) > 57 then (fastjson_validateNumber.j2 k x0 x4) else (fastjson_validateNumber.l0 k x0 (wrap64 (x4 + 1))))) else (none)) else (fastjson_validateNumber.j2 k x0 x4)
end
def fastjson_validateNumber.f (k : Nat) (a0 : ByteArray) : Option (ByteArray × Option Int) := if (a0.size : Int) = 0 then ((errors_New.f (⟨#[122, 101, 114, 111, 45, 108, 101, 110, 103, 116, 104, 32, 110, 117, 109, 98, 101, 114]⟩ : ByteArray)).bind fun t132 => (some (a0, t132))) else (if 0 < (a0.size : Int) then (if (bt a0 0) = 45 then (if 1 ≤ (a0.size : Int) then (if ((a0.extract 1 a0.size).size : Int) = 0 then ((errors_New.f (⟨#[109, 105, 115, 115, 105, 110, 103, 32, 110, 117, 109, 98, 101, 114, 32, 97, 102, 116, 101, 114, 32, 109, 105, 110, 117, 115]⟩ : ByteArray)).bind fun t133 => (some (a0.extract 1 a0.size, t133))) else (fastjson_validateNumber.j0 k (a0.extract 1 a0.size))) else (none)) else (fastjson_validateNumber.j0 k a0)) else (none))
theorem fastjson_validateNumber.mono_l : ∀ k, (∀ y0, LeO (fastjson_validateNumber.j0 k y0) (fastjson_validateNumber.j0 (k + 1) y0)) ∧ (∀ y0 y1, LeO (fastjson_validateNumber.j2 k y0 y1) (fastjson_validateNumber.j2 (k + 1) y0 y1)) ∧ (∀ y0 y1 y2, LeO (fastjson_validateNumber.j3 k y0 y1 y2) (fastjson_validateNumber.j3 (k + 1) y0 y1 y2)) ∧ (∀ y0 y1, LeO (fastjson_validateNumber.j6 k y0 y1) (fastjson_validateNumber.j6 (k + 1) y0 y1)) ∧ (∀ y0 y1 y2, LeO (fastjson_validateNumber.j7 k y0 y1 y2) (fastjson_validateNumber.j7 (k + 1) y0 y1 y2)) ∧ (∀ y0 y1, LeO (fastjson_validateNumber.j8 k y0 y1) (fastjson_validateNumber.j8 (k + 1) y0 y1)) ∧ (∀ y0, LeO (fastjson_validateNumber.j9 k y0) (fastjson_validateNumber.j9 (k + 1) y0)) ∧ (∀ y0 y1, LeO (fastjson_validateNumber.j11 k y0 y1) (fastjson_validateNumber.j11 (k + 1) y0 y1)) ∧ (∀ y0 y1, LeO (fastjson_validateNumber.l2 k y0 y1) (fastjson_validateNumber.l2 (k + 1) y0 y1)) ∧ (∀ y0 y1, LeO (fastjson_validateNumber.j5 k y0 y1) (fastjson_validateNumber.j5 (k + 1) y0 y1)) ∧ (∀ y0 y1, LeO (fastjson_validateNumber.l1 k y0 y1) (fastjson_validateNumber.l1 (k + 1) y0 y1)) ∧ (∀ y0 y1, LeO (fastjson_validateNumber.l0 k y0 y1) (fastjson_validateNumber.l0 (k + 1) y0 y1))
  | 0 => ⟨fun _ r h => by simp [fastjson_validateNumber.j0] at h, fun _ _ r h => by simp [fastjson_validateNumber.j2] at h, fun _ _ _ r h => by simp [fastjson_validateNumber.j3] at h, fun _ _ r h => by simp [fastjson_validateNumber.j6] at h, fun _ _ _ r h => by simp [fastjson_validateNumber.j7] at h, fun _ _ r h => by simp [fastjson_validateNumber.j8] at h, fun _ r h => by simp [fastjson_validateNumber.j9] at h, fun _ _ r h => by simp [fastjson_validateNumber.j11] at h, fun _ _ r h => by simp [fastjson_validateNumber.l2] at h, fun _ _ r h => by simp [fastjson_validateNumber.j5] at h, fun _ _ r h => by simp [fastjson_validateNumber.l1] at h, fun _ _ r h => by simp [fastjson_validateNumber.l0] at h⟩
  | k + 1 => by
    obtain ⟨ih0, ih1, ih2, ih3, ih4, ih5, ih6, ih7, ih8, ih9, ih10, ih11⟩ := fastjson_validateNumber.mono_l k
    refine ⟨?_, ?_, ?_, ?_, ?_, ?_, ?_, ?_, ?_, ?_, ?_, ?_⟩
    · intro y0
      unfold fastjson_validateNumber.j0
      repeat' first
      | (with_reducible exact ih0 _)
      | (with_reducible exact ih1 _ _)
      | (with_reducible exact ih2 _ _ _)
      | (with_reducible exact ih3 _ _)
      | (with_reducible exact ih4 _ _ _)
      | (with_reducible exact ih5 _ _)
      | (with_reducible exact ih6 _)
      | (with_reducible exact ih7 _ _)
      | (with_reducible exact ih8 _ _)
      | (with_reducible exact ih9 _ _)
      | (with_reducible exact ih10 _ _)
      | (with_reducible exact ih11 _ _)
      | (with_reducible exact LeO.refl _)
      | (with_reducible exact LeO.none _)
      | (with_reducible refine LeO.ite ?_ ?_)
      | (with_reducible refine LeO.bind ?_ (fun _ => ?_))
      | exact ih0 _
      | exact ih1 _ _
      | exact ih2 _ _ _
      | exact ih3 _ _
      | exact ih4 _ _ _
      | exact ih5 _ _
      | exact ih6 _
      | exact ih7 _ _
      | exact ih8 _ _
      | exact ih9 _ _
      | exact ih10 _ _
      | exact ih11 _ _
      | exact LeO.none _
      | refine LeO.ite ?_ ?_
      | refine LeO.bind ?_ (fun _ => ?_)
    · intro y0 y1
      unfold fastjson_validateNumber.j2
      repeat' first
      | (with_reducible exact ih0 _)
      | (with_reducible exact ih1 _ _)
      | (with_reducible exact ih2 _ _ _)
      | (with_reducible exact ih3 _ _)
      | (with_reducible exact ih4 _ _ _)
      | (with_reducible exact ih5 _ _)
      | (with_reducible exact ih6 _)
      | (with_reducible exact ih7 _ _)
      | (with_reducible exact ih8 _ _)
      | (with_reducible exact ih9 _ _)
      | (with_reducible exact ih10 _ _)
      | (with_reducible exact ih11 _ _)
      | (with_reducible exact LeO.refl _)
      | (with_reducible exact LeO.none _)
      | (with_reducible refine LeO.ite ?_ ?_)
      | (with_reducible refine LeO.bind ?_ (fun _ => ?_))
      | exact ih0 _
      | exact ih1 _ _
      | exact ih2 _ _ _
      | exact ih3 _ _
      | exact ih4 _ _ _
      | exact ih5 _ _
      | exact ih6 _
      | exact ih7 _ _
      | exact ih8 _ _
      | exact ih9 _ _
      | exact ih10 _ _
      | exact ih11 _ _
      | exact LeO.none _
      | refine LeO.ite ?_ ?_
      | refine LeO.bind ?_ (fun _ => ?_)
    · intro y0 y1 y2
      unfold fastjson_validateNumber.j3
      repeat' first
      | (with_reducible exact ih0 _)
      | (with_reducible exact ih1 _ _)
      | (with_reducible exact ih2 _ _ _)
      | (with_reducible exact ih3 _ _)
      | (with_reducible exact ih4 _ _ _)
      | (with_reducible exact ih5 _ _)
      | (with_reducible exact ih6 _)
      | (with_reducible exact ih7 _ _)
      | (with_reducible exact ih8 _ _)
      | (with_reducible exact ih9 _ _)
      | (with_reducible exact ih10 _ _)
      | (with_reducible exact ih11 _ _)
      | (with_reducible exact LeO.refl _)
      | (with_reducible exact LeO.none _)
      | (with_reducible refine LeO.ite ?_ ?_)
      | (with_reducible refine LeO.bind ?_ (fun _ => ?_))
      | exact ih0 _
      | exact ih1 _ _
      | exact ih2 _ _ _
      | exact ih3 _ _
      | exact ih4 _ _ _
      | exact ih5 _ _
      | exact ih6 _
      | exact ih7 _ _
      | exact ih8 _ _
      | exact ih9 _ _
      | exact ih10 _ _
      | exact ih11 _ _
      | exact LeO.none _
      | refine LeO.ite ?_ ?_
      | refine LeO.bind ?_ (fun _ => ?_)
    · intro y0 y1
      unfold fastjson_validateNumber.j6
      repeat' first
      | (with_reducible exact ih0 _)
      | (with_reducible exact ih1 _ _)
      | (with_reducible exact ih2 _ _ _)
      | (with_reducible exact ih3 _ _)
      | (with_reducible exact ih4 _ _ _)
      | (with_reducible exact ih5 _ _)
      | (with_reducible exact ih6 _)
      | (with_reducible exact ih7 _ _)
      | (with_reducible exact ih8 _ _)
      | (with_reducible exact ih9 _ _)
      | (with_reducible exact ih10 _ _)
      | (with_reducible exact ih11 _ _)
      | (with_reducible exact LeO.refl _)
      | (with_reducible exact LeO.none _)
      | (with_reducible refine LeO.ite ?_ ?_)
      | (with_reducible refine LeO.bind ?_ (fun _ => ?_))
      | exact ih0 _
      | exact ih1 _ _
      | exact ih2 _ _ _
      | exact ih3 _ _
      | exact ih4 _ _ _
      | exact ih5 _ _
      | exact ih6 _
      | exact ih7 _ _
      | exact ih8 _ _
      | exact ih9 _ _
      | exact ih10 _ _
      | exact ih11 _ _
      | exact LeO.none _
      | refine LeO.ite ?_ ?_
      | refine LeO.bind ?_ (fun _ => ?_)
    · intro y0 y1 y2
      unfold fastjson_validateNumber.j7
      repeat' first
      | (with_reducible exact ih0 _)
      | (with_reducible exact ih1 _ _)
      | (with_reducible exact ih2 _ _ _)
      | (with_reducible exact ih3 _ _)
      | (with_reducible exact ih4 _ _ _)
      | (with_reducible exact ih5 _ _)
      | (with_reducible exact ih6 _)
      | (with_reducible exact ih7 _ _)
      | (with_reducible exact ih8 _ _)
      | (with_reducible exact ih9 _ _)
      | (with_reducible exact ih10 _ _)
      | (with_reducible exact ih11 _ _)
      | (with_reducible exact LeO.refl _)
      | (with_reducible exact LeO.none _)
      | (with_reducible refine LeO.ite ?_ ?_)
      | (with_reducible refine LeO.bind ?_ (fun _ => ?_))
      | exact ih0 _
      | exact ih1 _ _
      | exact ih2 _ _ _
      | exact ih3 _ _
      | exact ih4 _ _ _
      | exact ih5 _ _
      | exact ih6 _
      | exact ih7 _ _
      | exact ih8 _ _
      | exact ih9 _ _
      | exact ih10 _ _
      | exact ih11 _ _
      | exact LeO.none _
      | refine LeO.ite ?_ ?_
      | refine LeO.bind ?_ (fun _ => ?_)
    · intro y0 y1
      unfold fastjson_validateNumber.j8
      repeat' first
      | (with_reducible exact ih0 _)
      | (with_reducible exact ih1 _ _)
      | (with_reducible exact ih2 _ _ _)
      | (with_reducible exact ih3 _ _)
      | (with_reducible exact ih4 _ _ _)
      | (with_reducible exact ih5 _ _)
      | (with_reducible exact ih6 _)
      | (with_reducible exact ih7 _ _)
      | (with_reducible exact ih8 _ _)
      | (with_reducible exact ih9 _ _)
      | (with_reducible exact ih10 _ _)
      | (with_reducible exact ih11 _ _)
      | (with_reducible exact LeO.refl _)
      | (with_reducible exact LeO.none _)
      | (with_reducible refine LeO.ite ?_ ?_)
      | (with_reducible refine LeO.bind ?_ (fun _ => ?_))
      | exact ih0 _
      | exact ih1 _ _
      | exact ih2 _ _ _
      | exact ih3 _ _
      | exact ih4 _ _ _
      | exact ih5 _ _
      | exact ih6 _
      | exact ih7 _ _
      | exact ih8 _ _
      | exact ih9 _ _
      | exact ih10 _ _
      | exact ih11 _ _
      | exact LeO.none _
      | refine LeO.ite ?_ ?_
      | refine LeO.bind ?_ (fun _ => ?_)
    · intro y0
      unfold fastjson_validateNumber.j9
      repeat' first
      | (with_reducible exact ih0 _)
      | (with_reducible exact ih1 _ _)
      | (with_reducible exact ih2 _ _ _)
      | (with_reducible exact ih3 _ _)
      | (with_reducible exact ih4 _ _ _)
      | (with_reducible exact ih5 _ _)
      | (with_reducible exact ih6 _)
      | (with_reducible exact ih7 _ _)
      | (with_reducible exact ih8 _ _)
      | (with_reducible exact ih9 _ _)
      | (with_reducible exact ih10 _ _)
      | (with_reducible exact ih11 _ _)
      | (with_reducible exact LeO.refl _)
      | (with_reducible exact LeO.none _)
      | (with_reducible refine LeO.ite ?_ ?_)
      | (with_reducible refine LeO.bind ?_ (fun _ => ?_))
      | exact ih0 _
      | exact ih1 _ _
      | exact ih2 _ _ _
      | exact ih3 _ _
      | exact ih4 _ _ _
      | exact ih5 _ _
      | exact ih6 _
      | exact ih7 _ _
      | exact ih8 _ _
      | exact ih9 _ _
      | exact ih10 _ _
      | exact ih11 _ _
      | exact LeO.none _
      | refine LeO.ite ?_ ?_
      | refine LeO.bind ?_ (fun _ => ?_)
    · intro y0 y1
      unfold fastjson_validateNumber.j11
      repeat' first
      | (with_reducible exact ih0 _)
      | (with_reducible exact ih1 _ _)
      | (with_reducible exact ih2 _ _ _)
      | (with_reducible exact ih3 _ _)
      | (with_reducible exact ih4 _ _ _)
      | (with_reducible exact ih5 _ _)
      | (with_reducible exact ih6 _)
      | (with_reducible exact ih7 _ _)
      | (with_reducible exact ih8 _ _)
      | (with_reducible exact ih9 _ _)
      | (with_reducible exact ih10 _ _)
      | (with_reducible exact ih11 _ _)
      | (with_reducible exact LeO.refl _)
      | (with_reducible exact LeO.none _)
      | (with_reducible refine LeO.ite ?_ ?_)
      | (with_reducible refine LeO.bind ?_ (fun _ => ?_))
      | exact ih0 _
      | exact ih1 _ _
      | exact ih2 _ _ _
      | exact ih3 _ _
      | exact ih4 _ _ _
      | exact ih5 _ _
      | exact ih6 _
      | exact ih7 _ _
      | exact ih8 _ _
      | exact ih9 _ _
      | exact ih10 _ _
      | exact ih11 _ _
      | exact LeO.none _
      | refine LeO.ite ?_ ?_
      | refine LeO.bind ?_ (fun _ => ?_)
    · intro y0 y1
      unfold fastjson_validateNumber.l2
      repeat' first
      | (with_reducible exact ih0 _)
      | (with_reducible exact ih1 _ _)
      | (with_reducible exact ih2 _ _ _)
      | (with_reducible exact ih3 _ _)
      | (with_reducible exact ih4 _ _ _)
      | (with_reducible exact ih5 _ _)
      | (with_reducible exact ih6 _)
      | (with_reducible exact ih7 _ _)
      | (with_reducible exact ih8 _ _)
      | (with_reducible exact ih9 _ _)
      | (with_reducible exact ih10 _ _)
      | (with_reducible exact ih11 _ _)
      | (with_reducible exact LeO.refl _)
      | (with_reducible exact LeO.none _)
      | (with_reducible refine LeO.ite ?_ ?_)
      | (with_reducible refine LeO.bind ?_ (fun _ => ?_))
      | exact ih0 _
      | exact ih1 _ _
      | exact ih2 _ _ _
      | exact ih3 _ _
      | exact ih4 _ _ _
      | exact ih5 _ _
      | exact ih6 _
      | exact ih7 _ _
      | exact ih8 _ _
      | exact ih9 _ _
      | exact ih10 _ _
      | exact ih11 _ _
      | exact LeO.none _
      | refine LeO.ite ?_ ?_
      | refine LeO.bind ?_ (fun _ => ?_)
    · intro y0 y1
      unfold fastjson_validateNumber.j5
      repeat' first
      | (with_reducible exact ih0 _)
      | (with_reducible exact ih1 _ _)
      | (with_reducible exact ih2 _ _ _)
      | (with_reducible exact ih3 _ _)
      | (with_reducible exact ih4 _ _ _)
      | (with_reducible exact ih5 _ _)
      | (with_reducible exact ih6 _)
      | (with_reducible exact ih7 _ _)
      | (with_reducible exact ih8 _ _)
      | (with_reducible exact ih9 _ _)
      | (with_reducible exact ih10 _ _)
      | (with_reducible exact ih11 _ _)
      | (with_reducible exact LeO.refl _)
      | (with_reducible exact LeO.none _)
      | (with_reducible refine LeO.ite ?_ ?_)
      | (with_reducible refine LeO.bind ?_ (fun _ => ?_))
      | exact ih0 _
      | exact ih1 _ _
      | exact ih2 _ _ _
      | exact ih3 _ _
      | exact ih4 _ _ _
      | exact ih5 _ _
      | exact ih6 _
      | exact ih7 _ _
      | exact ih8 _ _
      | exact ih9 _ _
      | exact ih10 _ _
      | exact ih11 _ _
      | exact LeO.none _
      | refine LeO.ite ?_ ?_
      | refine LeO.bind ?_ (fun _ => ?_)
    · intro y0 y1
      unfold fastjson_validateNumber.l1
      repeat' first
      | (with_reducible exact ih0 _)
      | (with_reducible exact ih1 _ _)
      | (with_reducible exact ih2 _ _ _)
      | (with_reducible exact ih3 _ _)
      | (with_reducible exact ih4 _ _ _)
      | (with_reducible exact ih5 _ _)
      | (with_reducible exact ih6 _)
      | (with_reducible exact ih7 _ _)
      | (with_reducible exact ih8 _ _)
      | (with_reducible exact ih9 _ _)
      | (with_reducible exact ih10 _ _)
      | (with_reducible exact ih11 _ _)
      | (with_reducible exact LeO.refl _)
      | (with_reducible exact LeO.none _)
      | (with_reducible refine LeO.ite ?_ ?_)
      | (with_reducible refine LeO.bind ?_ (fun _ => ?_))
      | exact ih0 _
      | exact ih1 _ _
      | exact ih2 _ _ _
      | exact ih3 _ _
      | exact ih4 _ _ _
      | exact ih5 _ _
      | exact ih6 _
      | exact ih7 _ _
      | exact ih8 _ _
      | exact ih9 _ _
      | exact ih10 _ _
      | exact ih11 _ _
      | exact LeO.none _
      | refine LeO.ite ?_ ?_
      | refine LeO.bind ?_ (fun _ => ?_)
    · intro y0 y1
      unfold fastjson_validateNumber.l0
      repeat' first
      | (with_reducible exact ih0 _)
      | (with_reducible exact ih1 _ _)
      | (with_reducible exact ih2 _ _ _)
      | (with_reducible exact ih3 _ _)
      | (with_reducible exact ih4 _ _ _)
      | (with_reducible exact ih5 _ _)
      | (with_reducible exact ih6 _)
      | (with_reducible exact ih7 _ _)
      | (with_reducible exact ih8 _ _)
      | (with_reducible exact ih9 _ _)
      | (with_reducible exact ih10 _ _)
      | (with_reducible exact ih11 _ _)
      | (with_reducible exact LeO.refl _)
      | (with_reducible exact LeO.none _)
      | (with_reducible refine LeO.ite ?_ ?_)
      | (with_reducible refine LeO.bind ?_ (fun _ => ?_))
      | exact ih0 _
      | exact ih1 _ _
      | exact ih2 _ _ _
      | exact ih3 _ _
      | exact ih4 _ _ _
      | exact ih5 _ _
      | exact ih6 _
      | exact ih7 _ _
      | exact ih8 _ _
      | exact ih9 _ _
      | exact ih10 _ _
      | exact ih11 _ _
      | exact LeO.none _
      | refine LeO.ite ?_ ?_
      | refine LeO.bind ?_ (fun _ => ?_)
theorem fastjson_validateNumber.mono : ∀ a0 k, LeO (fastjson_validateNumber.f k a0) (fastjson_validateNumber.f (k + 1) a0) := by
  intro a0 k
  obtain ⟨ih0, ih1, ih2, ih3, ih4, ih5, ih6, ih7, ih8, ih9, ih10, ih11⟩ := fastjson_validateNumber.mono_l k
  unfold fastjson_validateNumber.f
  repeat' first
      | (with_reducible exact ih0 _)
      | (with_reducible exact ih1 _ _)
      | (with_reducible exact ih2 _ _ _)
      | (with_reducible exact ih3 _ _)
      | (with_reducible exact ih4 _ _ _)
      | (with_reducible exact ih5 _ _)
      | (with_reducible exact ih6 _)
      | (with_reducible exact ih7 _ _)
      | (with_reducible exact ih8 _ _)
      | (with_reducible exact ih9 _ _)
      | (with_reducible exact ih10 _ _)
      | (with_reducible exact ih11 _ _)
      | (with_reducible exact LeO.refl _)
      | (with_reducible exact LeO.none _)
      | (with_reducible refine LeO.ite ?_ ?_)
      | (with_reducible refine LeO.bind ?_ (fun _ => ?_))
      | exact ih0 _
      | exact ih1 _ _
      | exact ih2 _ _ _
      | exact ih3 _ _
      | exact ih4 _ _ _
      | exact ih5 _ _
      | exact ih6 _
      | exact ih7 _ _
      | exact ih8 _ _
      | exact ih9 _ _
      | exact ih10 _ _
      | exact ih11 _ _
      | exact LeO.none _
      | refine LeO.ite ?_ ?_
      | refine LeO.bind ?_ (fun _ => ?_)
set_option maxHeartbeats 8000000 in
set_option maxRecDepth 100000 in
theorem fastjson_validateNumber.calls (k : Nat) (a0 : ByteArray) (r1 : ByteArray) (r2 : Option Int) (w : World) (h : fastjson_validateNumber.f k a0 = some (r1, r2)) :
    Calls Tryd.prog 111 #[.string a0] w fun e w' => ∃ x1_ : TypeId × Value, e = .returned (.tuple #[.string r1, errX x1_ r2]) ∧ Below w.heap.size w w' := by
  have HB := Aside0.mk (Below.refl w.heap.size w)
  have H : (if (a0.size : Int) = 0 then ((errors_New.f (⟨#[122, 101, 114, 111, 45, 108, 101, 110, 103, 116, 104, 32, 110, 117, 109, 98, 101, 114]⟩ : ByteArray)).bind fun t132 => (some (a0, t132))) else (if 0 < (a0.size : Int) then (if (bt a0 0) = 45 then (if 1 ≤ (a0.size : Int) then (if ((a0.extract 1 a0.size).size : Int) = 0 then ((errors_New.f (⟨#[109, 105, 115, 115, 105, 110, 103, 32, 110, 117, 109, 98, 101, 114, 32, 97, 102, 116, 101, 114, 32, 109, 105, 110, 117, 115]⟩ : ByteArray)).bind fun t133 => (some (a0.extract 1 a0.size, t133))) else (fastjson_validateNumber.j0 k (a0.extract 1 a0.size))) else (none)) else (fastjson_validateNumber.j0 k a0)) else (none))) = some (r1, r2) := h
  clear h
  by_cases c2 : (a0.size : Int) = 0
  · rw [if_pos c2] at H
    have c2b0 : ((a0.size : Int) == 0) = true := beq_iff_eq.mpr c2
    have c2b1 : ((a0.size : Int) != 0) = false := bne_eq_false_iff_eq.mpr c2
    clear c2
    replace H := Option.bind_eq_some_iff.mp H
    obtain ⟨t132, A30, H⟩ := H
    replace H : (some (a0, t132)) = some (r1, r2) := H
    have A3 := Aside0.mk A30
    clear A30
    simp only [Option.some.injEq, Prod.mk.injEq] at H
    obtain ⟨rfl, rfl⟩ := H
    go_enter Tryd.func111, Tryd.ntmps111
    go_wp2_with (first | ((with_reducible refine gate_callee (f := 84) rfl ?_); refine goesL_ (some 9) rfl rfl Tryd.func84 (by kernel_rfl) rfl #[.string (⟨#[122, 101, 114, 111, 45, 108, 101, 110, 103, 116, 104, 32, 110, 117, 109, 98, 101, 114]⟩ : ByteArray)] rfl (by (try simp only [List.map_toArray, List.map_cons, List.map_nil]); first | done | rfl | (simp only [List.length_drop, List.length_take]; rfl)) ?_; (with_reducible refine (errors_New.calls (⟨#[122, 101, 114, 111, 45, 108, 101, 110, 103, 116, 104, 32, 110, 117, 109, 98, 101, 114]⟩ : ByteArray) t132 _ A3.out).mono ?_); rintro e w4 ⟨ex_t132, rfl, hb⟩; refine ⟨_, rfl, ?_⟩; have n0_ := Aside0.mk (below_step (by repeat (first | (with_reducible first | exact HB.out | apply below_alloc | apply pw_below_drewN | apply below_drew1) | exact HB.out)) hb); clear HB; have HB := n0_; clear n0_; (try clear hb); (try clear hb2); (try clear hk); (try clear hi); (try simp only [errX_none, errX_some])))
    go_ret2
    first | exact ⟨ex_t132, by first | rfl | (simp [errX_none, errX_some] <;> rfl) | (simp [*, errX_none, errX_some] <;> rfl), by repeat (first | (with_reducible first | exact HB.out | apply below_alloc | apply pw_below_drewN | apply below_drew1) | exact HB.out)⟩ | exact ⟨ex_t132.1, ex_t132.2, by first | rfl | (simp [errX_none, errX_some] <;> rfl) | (simp [*, errX_none, errX_some] <;> rfl), by repeat (first | (with_reducible first | exact HB.out | apply below_alloc | apply pw_below_drewN | apply below_drew1) | exact HB.out)⟩ | exact ⟨⟨ex_t132, by first | rfl | (simp [errX_none, errX_some] <;> rfl) | (simp [*, errX_none, errX_some] <;> rfl)⟩, by repeat (first | (with_reducible first | exact HB.out | apply below_alloc | apply pw_below_drewN | apply below_drew1) | exact HB.out)⟩ | exact ⟨⟨ex_t132.1, ex_t132.2, by first | rfl | (simp [errX_none, errX_some] <;> rfl) | (simp [*, errX_none, errX_some] <;> rfl)⟩, by repeat (first | (with_reducible first | exact HB.out | apply below_alloc | apply pw_below_drewN | apply below_drew1) | exact HB.out)⟩
  · rw [if_neg c2] at H
    have c2b0 : ((a0.size : Int) == 0) = false := beq_eq_false_iff_ne.mpr c2
    have c2b1 : ((a0.size : Int) != 0) = true := bne_iff_ne.mpr c2
    by_cases c5 : 0 < (a0.size : Int)
    · rw [if_pos c5] at H
      have c5b0 : decide (0 < (a0.size : Int)) = true := decide_eq_true c5
      have c5b1 : decide (0 < a0.size) = true := decide_eq_true (by omega)
      clear c5
      have HC7 := Aside0.mk H
      clear H
      have p6 : 0 ≤ (0 : Int) := (by omega)
      have q6 : 0 < a0.size := (by have : (0 : Int) < (a0.size : Int) := of_decide_eq_true (by first | (with_reducible assumption) | assumption); omega)
      have hx6 : ∀ h : 0 < a0.size, ((a0[0]'h).toNat : Int) = bt a0 0 := bt_at a0 0
      clear p6
      have qi6 : (0 < (a0.size : Int)) = True := eq_true (of_decide_eq_true (by first | (with_reducible assumption) | assumption))
      replace q6 := eq_true q6
      go_enter Tryd.func111, Tryd.ntmps111
      go_upto_if 12 with (fail)
      go_cut [0] (fun v0 wc => ∃ (kq : Nat) (x0_6 : ByteArray), v0 = .string x0_6 ∧ Aside0 (fastjson_validateNumber.j0 kq x0_6 = some (r1, r2)) ∧ Aside0 (kq ≤ k) ∧ Aside0 (Below w.heap.size w wc))
      case first =>
        have H := HC7.out
        clear HC7
        by_cases c8 : (bt a0 0) = 45
        · rw [if_pos c8] at H
          have c8b0 : ((bt a0 0) == 45) = true := beq_iff_eq.mpr c8
          have c8b1 : ((bt a0 0) != 45) = false := bne_eq_false_iff_eq.mpr c8
          clear c8
          (first | rw [c8b0] | (simp only [i64_w, i32_w]; rw [c8b0]) | skip)
          by_cases c9 : 1 ≤ (a0.size : Int)
          · rw [if_pos c9] at H
            have c9b0 := eq_true c9
            have c9b1 : decide (1 ≤ (a0.size : Int)) = true := decide_eq_true c9
            clear c9
            by_cases c10 : ((a0.extract 1 a0.size).size : Int) = 0
            · rw [if_pos c10] at H
              have c10b0 : (((a0.extract 1 a0.size).size : Int) == 0) = true := beq_iff_eq.mpr c10
              have c10e0 := c10b0
              (try simp only [ByteArray.size_extract, Nat.min_self] at c10e0)
              (first | have c10f0 := of_decide_eq_true c10e0 | have c10f0 := of_decide_eq_false c10e0 | skip)
              have c10b1 : (((a0.extract 1 a0.size).size : Int) != 0) = false := bne_eq_false_iff_eq.mpr c10
              have c10e1 := c10b1
              (try simp only [ByteArray.size_extract, Nat.min_self] at c10e1)
              (first | have c10f1 := of_decide_eq_true c10e1 | have c10f1 := of_decide_eq_false c10e1 | skip)
              clear c10
              replace H := Option.bind_eq_some_iff.mp H
              obtain ⟨t133, A110, H⟩ := H
              replace H : (some (a0.extract 1 a0.size, t133)) = some (r1, r2) := H
              have A11 := Aside0.mk A110
              clear A110
              simp only [Option.some.injEq, Prod.mk.injEq] at H
              obtain ⟨rfl, rfl⟩ := H
              go_wp2_with (first | ((with_reducible refine gate_callee (f := 84) rfl ?_); refine goesL_ (some 19) rfl rfl Tryd.func84 (by kernel_rfl) rfl #[.string (⟨#[109, 105, 115, 115, 105, 110, 103, 32, 110, 117, 109, 98, 101, 114, 32, 97, 102, 116, 101, 114, 32, 109, 105, 110, 117, 115]⟩ : ByteArray)] rfl (by (try simp only [List.map_toArray, List.map_cons, List.map_nil]); first | done | rfl | (simp only [List.length_drop, List.length_take]; rfl)) ?_; (with_reducible refine (errors_New.calls (⟨#[109, 105, 115, 115, 105, 110, 103, 32, 110, 117, 109, 98, 101, 114, 32, 97, 102, 116, 101, 114, 32, 109, 105, 110, 117, 115]⟩ : ByteArray) t133 _ A11.out).mono ?_); rintro e w12 ⟨ex_t133, rfl, hb⟩; refine ⟨_, rfl, ?_⟩; have n0_ := Aside0.mk (below_step (by repeat (first | (with_reducible first | exact HB.out | apply below_alloc | apply pw_below_drewN | apply below_drew1) | exact HB.out)) hb); clear HB; have HB := n0_; clear n0_; (try clear hb); (try clear hb2); (try clear hk); (try clear hi); (try simp only [errX_none, errX_some])))
              go_ret2
              first | exact ⟨ex_t133, by first | rfl | (simp [errX_none, errX_some] <;> rfl) | (simp [*, errX_none, errX_some] <;> rfl), by repeat (first | (with_reducible first | exact HB.out | apply below_alloc | apply pw_below_drewN | apply below_drew1) | exact HB.out)⟩ | exact ⟨ex_t133.1, ex_t133.2, by first | rfl | (simp [errX_none, errX_some] <;> rfl) | (simp [*, errX_none, errX_some] <;> rfl), by repeat (first | (with_reducible first | exact HB.out | apply below_alloc | apply pw_below_drewN | apply below_drew1) | exact HB.out)⟩ | exact ⟨⟨ex_t133, by first | rfl | (simp [errX_none, errX_some] <;> rfl) | (simp [*, errX_none, errX_some] <;> rfl)⟩, by repeat (first | (with_reducible first | exact HB.out | apply below_alloc | apply pw_below_drewN | apply below_drew1) | exact HB.out)⟩ | exact ⟨⟨ex_t133.1, ex_t133.2, by first | rfl | (simp [errX_none, errX_some] <;> rfl) | (simp [*, errX_none, errX_some] <;> rfl)⟩, by repeat (first | (with_reducible first | exact HB.out | apply below_alloc | apply pw_below_drewN | apply below_drew1) | exact HB.out)⟩
            · rw [if_neg c10] at H
              have c10b0 : (((a0.extract 1 a0.size).size : Int) == 0) = false := beq_eq_false_iff_ne.mpr c10
              have c10e0 := c10b0
              (try simp only [ByteArray.size_extract, Nat.min_self] at c10e0)
              (first | have c10f0 := of_decide_eq_true c10e0 | have c10f0 := of_decide_eq_false c10e0 | skip)
              have c10b1 : (((a0.extract 1 a0.size).size : Int) != 0) = true := bne_iff_ne.mpr c10
              have c10e1 := c10b1
              (try simp only [ByteArray.size_extract, Nat.min_self] at c10e1)
              (first | have c10f1 := of_decide_eq_true c10e1 | have c10f1 := of_decide_eq_false c10e1 | skip)
              have H' := Aside0.mk H
              clear H
              go_wp2
              (first | go_meet | (rw [← c2b0]; go_meet) | (rw [← c8b0]; go_meet) | (rw [← c10b0]; go_meet))
              case rel => exact ⟨_, (a0.extract 1 a0.size), (by first | rfl | (simp; done) | (simp [*]; done)), H', ⟨by first | omega | exact Nat.le_refl _⟩, ⟨by repeat (first | (with_reducible first | exact HB.out | apply below_alloc | apply pw_below_drewN | apply below_drew1) | exact HB.out)⟩⟩
          · rw [if_neg c9] at H
            exact absurd H (by simp)
        · rw [if_neg c8] at H
          have c8b0 : ((bt a0 0) == 45) = false := beq_eq_false_iff_ne.mpr c8
          have c8b1 : ((bt a0 0) != 45) = true := bne_iff_ne.mpr c8
          (first | rw [c8b0] | (simp only [i64_w, i32_w]; rw [c8b0]) | skip)
          have H' := Aside0.mk H
          clear H
          go_wp2
          (first | go_meet | (rw [← c2b0]; go_meet) | (rw [← c8b0]; go_meet))
          case rel => exact ⟨_, (a0), (by first | rfl | (simp; done) | (simp [*]; done)), H', ⟨by first | omega | exact Nat.le_refl _⟩, ⟨by repeat (first | (with_reducible first | exact HB.out | apply below_alloc | apply pw_below_drewN | apply below_drew1) | exact HB.out)⟩⟩
      case rest =>
        clear HC7
        try clear c1
        try clear c2
        try clear c2b0
        try clear c2b1
        try clear p2
        try clear c5
        try clear c5b0
        try clear c5b1
        try clear p6
        try clear q6
        try clear hx6
        try clear qi6
        try clear c8
        try clear c8b0
        try clear c8b1
        try clear c9
        try clear c9b0
        try clear c9b1
        try clear c10
        try clear c10b0
        try clear c10b1
        try clear c11
        try clear p6
        try clear q6
        obtain ⟨kq, x0_6, rfl, HA, HJ6, HB⟩ := hcut
        cases kq with
        | zero => exact absurd HA.out (by simp [fastjson_validateNumber.j0])
        | succ kj6 =>
          have H := HA.out
          clear HA
          simp only [fastjson_validateNumber.j0] at H
          have HC13 := Aside0.mk H
          clear H
          go_upto_block 0 with (fail)
          go_cut [4] (fun v4 wc => ∃ (kq : Nat) (x4_12 : Int), v4 = .int .i64 x4_12 ∧ Aside0 (fastjson_validateNumber.j2 kq x0_6 x4_12 = some (r1, r2)) ∧ Aside0 (kq ≤ kj6) ∧ Aside0 (Below w.heap.size w wc))
          case first =>
            have H := HC13.out
            clear HC13
            have H' := Aside0.mk H
            clear H
            go_wp2
            (try simp only [Act.put, List.setIfInBounds_toArray, List.set_cons_zero, List.set_cons_succ])
            go_loopg [4] kj6 (fun kq v4 w' => ∃ (x4_2 : Int), v4 = .int .i64 x4_2 ∧ Aside0 (fastjson_validateNumber.l0 kq x0_6 x4_2 = some (r1, r2)) ∧ Aside0 (kq ≤ kj6) ∧ Aside0 (Below w.heap.size w w'))
            case atStart => exact ⟨(0), (by first | rfl | (simp; done) | (simp [*]; done)), H', ⟨Nat.le_refl _⟩, ⟨by repeat (first | (with_reducible first | exact HB.out | apply below_alloc | apply pw_below_drewN | apply below_drew1) | exact HB.out)⟩⟩
            case round =>
              clear H'
              try clear c1
              try clear c2
              try clear c2b0
              try clear c2b1
              try clear p2
              try clear c5
              try clear c5b0
              try clear c5b1
              try clear p6
              try clear q6
              try clear hx6
              try clear qi6
              try clear c8
              try clear c8b0
              try clear c8b1
              try clear c9
              try clear c9b0
              try clear c9b1
              try clear c10
              try clear c10b0
              try clear c10b1
              try clear c11
              try clear p2
              try clear p6
              try clear q6
              obtain ⟨x4_2, rfl, HA, HK2, HB⟩ := hrel
              cases gk with
              | zero => exact absurd HA.out (by simp [fastjson_validateNumber.l0])
              | succ k2 =>
                have H := HA.out
                clear HA
                simp only [fastjson_validateNumber.l0] at H
                by_cases c14 : x4_2 < (x0_6.size : Int)
                · rw [if_pos c14] at H
                  have c14b0 : decide (x4_2 < (x0_6.size : Int)) = true := decide_eq_true c14
                  clear c14
                  (first | rw [c14b0] | (simp only [i64_w, i32_w]; rw [c14b0]) | skip)
                  by_cases c15 : 0 ≤ x4_2
                  · rw [if_pos c15] at H
                    have c15b0 : decide (0 ≤ x4_2) = true := decide_eq_true c15
                    clear c15
                    by_cases c17 : (bt x0_6 x4_2) < 48
                    · rw [if_pos c17] at H
                      have c17b0 : decide ((bt x0_6 x4_2) < 48) = true := decide_eq_true c17
                      clear c17
                      have H' := Aside0.mk H
                      clear H
                      have p16 : 0 ≤ (x4_2 : Int) := of_decide_eq_true (by first | (with_reducible assumption) | assumption)
                      have q16 : x4_2 < (x0_6.size : Int) := of_decide_eq_true (by first | (with_reducible assumption) | assumption)
                      have hx16 := bt_at x0_6 x4_2
                      replace p16 := eq_true p16
                      replace q16 := eq_true q16
                      go_wp2
                      (first | go_meet | (rw [← c2b0]; go_meet))
                      case rel => exact ⟨_, (x4_2), (by first | rfl | (simp; done) | (simp [*]; done)), H', ⟨by have := HJ6.out; have := HK2.out; first | omega | exact Nat.le_refl _⟩, ⟨by repeat (first | (with_reducible first | exact HB.out | apply below_alloc | apply pw_below_drewN | apply below_drew1) | exact HB.out)⟩⟩
                    · rw [if_neg c17] at H
                      have c17b0 : decide ((bt x0_6 x4_2) < 48) = false := decide_eq_false c17
                      clear c17
                      by_cases c19 : (bt x0_6 x4_2) > 57
                      · rw [if_pos c19] at H
                        have c19b0 : decide (57 < (bt x0_6 x4_2)) = true := decide_eq_true c19
                        clear c19
                        have H' := Aside0.mk H
                        clear H
                        have p16 : 0 ≤ (x4_2 : Int) := of_decide_eq_true (by first | (with_reducible assumption) | assumption)
                        have q16 : x4_2 < (x0_6.size : Int) := of_decide_eq_true (by first | (with_reducible assumption) | assumption)
                        have hx16 := bt_at x0_6 x4_2
                        replace p16 := eq_true p16
                        replace q16 := eq_true q16
                        have p18 : 0 ≤ (x4_2 : Int) := of_decide_eq_true (by first | (with_reducible assumption) | assumption)
                        have q18 : x4_2 < (x0_6.size : Int) := of_decide_eq_true (by first | (with_reducible assumption) | assumption)
                        have hx18 := bt_at x0_6 x4_2
                        replace p18 := eq_true p18
                        replace q18 := eq_true q18
                        go_wp2
                        (first | go_meet | (rw [← c2b0]; go_meet))
                        case rel => exact ⟨_, (x4_2), (by first | rfl | (simp; done) | (simp [*]; done)), H', ⟨by have := HJ6.out; have := HK2.out; first | omega | exact Nat.le_refl _⟩, ⟨by repeat (first | (with_reducible first | exact HB.out | apply below_alloc | apply pw_below_drewN | apply below_drew1) | exact HB.out)⟩⟩
                      · rw [if_neg c19] at H
                        have c19b0 : decide (57 < (bt x0_6 x4_2)) = false := decide_eq_false c19
                        clear c19
                        have H' := Aside0.mk H
                        clear H
                        have p16 : 0 ≤ (x4_2 : Int) := of_decide_eq_true (by first | (with_reducible assumption) | assumption)
                        have q16 : x4_2 < (x0_6.size : Int) := of_decide_eq_true (by first | (with_reducible assumption) | assumption)
                        have hx16 := bt_at x0_6 x4_2
                        replace p16 := eq_true p16
                        replace q16 := eq_true q16
                        have p18 : 0 ≤ (x4_2 : Int) := of_decide_eq_true (by first | (with_reducible assumption) | assumption)
                        have q18 : x4_2 < (x0_6.size : Int) := of_decide_eq_true (by first | (with_reducible assumption) | assumption)
                        have hx18 := bt_at x0_6 x4_2
                        replace p18 := eq_true p18
                        replace q18 := eq_true q18
                        go_wp2
                        go_roundg k2
                        case measure => have := HJ6.out; have := HK2.out; omega
                        case rel => exact ⟨(wrap64 (x4_2 + 1)), (by first | rfl | (simp; done) | (simp [*]; done)), H', ⟨by have := HJ6.out; have := HK2.out; omega⟩, ⟨by repeat (first | (with_reducible first | exact HB.out | apply below_alloc | apply pw_below_drewN | apply below_drew1) | exact HB.out)⟩⟩
                  · rw [if_neg c15] at H
                    exact absurd H (by simp)
                · rw [if_neg c14] at H
                  have c14b0 : decide (x4_2 < (x0_6.size : Int)) = false := decide_eq_false c14
                  clear c14
                  (first | rw [c14b0] | (simp only [i64_w, i32_w]; rw [c14b0]) | skip)
                  have H' := Aside0.mk H
                  clear H
                  go_wp2
                  (first | go_meet | (rw [← c2b0]; go_meet))
                  case rel => exact ⟨_, (x4_2), (by first | rfl | (simp; done) | (simp [*]; done)), H', ⟨by have := HJ6.out; have := HK2.out; first | omega | exact Nat.le_refl _⟩, ⟨by repeat (first | (with_reducible first | exact HB.out | apply below_alloc | apply pw_below_drewN | apply below_drew1) | exact HB.out)⟩⟩
          case rest =>
            clear HC13
            try clear c1
            try clear p1
            try clear q1
            try clear hx1
            try clear c2
            try clear c2b0
            try clear c2b1
            try clear p2
            try clear c5
            try clear c5b0
            try clear c5b1
            try clear p6
            try clear q6
            try clear hx6
            try clear qi6
            try clear c8
            try clear c8b0
            try clear c8b1
            try clear c9
            try clear c9b0
            try clear c9b1
            try clear c10
            try clear c10b0
            try clear c10b1
            try clear c11
            try clear c14
            try clear c14b0
            try clear c15
            try clear c15b0
            try clear p16
            try clear q16
            try clear hx16
            try clear c17
            try clear c17b0
            try clear p18
            try clear q18
            try clear hx18
            try clear c19
            try clear c19b0
            try clear p16
            try clear p18
            try clear p2
            try clear p6
            try clear q16
            try clear q18
            try clear q6
            obtain ⟨kq, x4_12, rfl, HA, HJ12, HB⟩ := hcut
            cases kq with
            | zero => exact absurd HA.out (by simp [fastjson_validateNumber.j2])
            | succ kj12 =>
              have H := HA.out
              clear HA
              simp only [fastjson_validateNumber.j2] at H
              by_cases c20 : x4_12 ≤ 0
              · rw [if_pos c20] at H
                have c20b0 : decide (x4_12 ≤ 0) = true := decide_eq_true c20
                clear c20
                replace H := Option.bind_eq_some_iff.mp H
                obtain ⟨t134, A210, H⟩ := H
                replace H : (some (x0_6, t134)) = some (r1, r2) := H
                have A21 := Aside0.mk A210
                clear A210
                simp only [Option.some.injEq, Prod.mk.injEq] at H
                obtain ⟨rfl, rfl⟩ := H
                go_wp2_with (first | ((with_reducible refine gate_callee (f := 84) rfl ?_); refine goesL_ (some 39) rfl rfl Tryd.func84 (by kernel_rfl) rfl #[.string (⟨#[101, 120, 112, 101, 99, 116, 105, 110, 103, 32, 48, 46, 46, 57, 32, 100, 105, 103, 105, 116, 44, 32, 103, 111, 116]⟩ : ByteArray)] rfl (by (try simp only [List.map_toArray, List.map_cons, List.map_nil]); first | done | rfl | (simp only [List.length_drop, List.length_take]; rfl)) ?_; (with_reducible refine (errors_New.calls (⟨#[101, 120, 112, 101, 99, 116, 105, 110, 103, 32, 48, 46, 46, 57, 32, 100, 105, 103, 105, 116, 44, 32, 103, 111, 116]⟩ : ByteArray) t134 _ A21.out).mono ?_); rintro e w22 ⟨ex_t134, rfl, hb⟩; refine ⟨_, rfl, ?_⟩; have n0_ := Aside0.mk (below_step (by repeat (first | (with_reducible first | exact HB.out | apply below_alloc | apply pw_below_drewN | apply below_drew1) | exact HB.out)) hb); clear HB; have HB := n0_; clear n0_; (try clear hb); (try clear hb2); (try clear hk); (try clear hi); (try simp only [errX_none, errX_some])))
                go_ret2
                first | exact ⟨ex_t134, by first | rfl | (simp [errX_none, errX_some] <;> rfl) | (simp [*, errX_none, errX_some] <;> rfl), by repeat (first | (with_reducible first | exact HB.out | apply below_alloc | apply pw_below_drewN | apply below_drew1) | exact HB.out)⟩ | exact ⟨ex_t134.1, ex_t134.2, by first | rfl | (simp [errX_none, errX_some] <;> rfl) | (simp [*, errX_none, errX_some] <;> rfl), by repeat (first | (with_reducible first | exact HB.out | apply below_alloc | apply pw_below_drewN | apply below_drew1) | exact HB.out)⟩ | exact ⟨⟨ex_t134, by first | rfl | (simp [errX_none, errX_some] <;> rfl) | (simp [*, errX_none, errX_some] <;> rfl)⟩, by repeat (first | (with_reducible first | exact HB.out | apply below_alloc | apply pw_below_drewN | apply below_drew1) | exact HB.out)⟩ | exact ⟨⟨ex_t134.1, ex_t134.2, by first | rfl | (simp [errX_none, errX_some] <;> rfl) | (simp [*, errX_none, errX_some] <;> rfl)⟩, by repeat (first | (with_reducible first | exact HB.out | apply below_alloc | apply pw_below_drewN | apply below_drew1) | exact HB.out)⟩
              · rw [if_neg c20] at H
                have c20b0 : decide (x4_12 ≤ 0) = false := decide_eq_false c20
                clear c20
                have HC23 := Aside0.mk H
                clear H
                go_upto_region 13 with (fail)
                go_cut [46] (fun v46 wc => ∃ (kq : Nat) (x46_22 : Bool), v46 = .bool x46_22 ∧ Aside0 (fastjson_validateNumber.j3 kq x0_6 x4_12 x46_22 = some (r1, r2)) ∧ Aside0 (kq ≤ kj12) ∧ Aside0 (Below w.heap.size w wc))
                case first =>
                  have H := HC23.out
                  clear HC23
                  by_cases c24 : 0 < (x0_6.size : Int)
                  · rw [if_pos c24] at H
                    have c24b0 : decide (0 < (x0_6.size : Int)) = true := decide_eq_true c24
                    have c24b1 : decide (0 < x0_6.size) = true := decide_eq_true (by omega)
                    clear c24
                    (first | rw [c24b0] | (simp only [i64_w, i32_w]; rw [c24b0]) | skip)
                    by_cases c26 : (bt x0_6 0) = 48
                    · rw [if_pos c26] at H
                      have c26b0 : ((bt x0_6 0) == 48) = true := beq_iff_eq.mpr c26
                      have c26b1 : ((bt x0_6 0) != 48) = false := bne_eq_false_iff_eq.mpr c26
                      clear c26
                      have H' := Aside0.mk H
                      clear H
                      have p25 : 0 ≤ (0 : Int) := (by omega)
                      have q25 : 0 < x0_6.size := (by have : (0 : Int) < (x0_6.size : Int) := of_decide_eq_true (by first | (with_reducible assumption) | assumption); omega)
                      have hx25 : ∀ h : 0 < x0_6.size, ((x0_6[0]'h).toNat : Int) = bt x0_6 0 := bt_at x0_6 0
                      clear p25
                      have qi25 : (0 < (x0_6.size : Int)) = True := eq_true (of_decide_eq_true (by first | (with_reducible assumption) | assumption))
                      replace q25 := eq_true q25
                      go_wp2
                      (first | go_meet | (rw [← c2b0]; go_meet) | (rw [← c26b0]; go_meet))
                      case rel => exact ⟨_, ((x4_12 != 1)), (by first | rfl | (simp; done) | (simp [*]; done)), H', ⟨by have := HJ6.out; have := HJ12.out; first | omega | exact Nat.le_refl _⟩, ⟨by repeat (first | (with_reducible first | exact HB.out | apply below_alloc | apply pw_below_drewN | apply below_drew1) | exact HB.out)⟩⟩
                    · rw [if_neg c26] at H
                      have c26b0 : ((bt x0_6 0) == 48) = false := beq_eq_false_iff_ne.mpr c26
                      have c26b1 : ((bt x0_6 0) != 48) = true := bne_iff_ne.mpr c26
                      have H' := Aside0.mk H
                      clear H
                      have p25 : 0 ≤ (0 : Int) := (by omega)
                      have q25 : 0 < x0_6.size := (by have : (0 : Int) < (x0_6.size : Int) := of_decide_eq_true (by first | (with_reducible assumption) | assumption); omega)
                      have hx25 : ∀ h : 0 < x0_6.size, ((x0_6[0]'h).toNat : Int) = bt x0_6 0 := bt_at x0_6 0
                      clear p25
                      have qi25 : (0 < (x0_6.size : Int)) = True := eq_true (of_decide_eq_true (by first | (with_reducible assumption) | assumption))
                      replace q25 := eq_true q25
                      go_wp2
                      (first | go_meet | (rw [← c2b0]; go_meet) | (rw [← c26b0]; go_meet))
                      case rel => exact ⟨_, (false), (by first | rfl | (simp; done) | (simp [*]; done)), H', ⟨by have := HJ6.out; have := HJ12.out; first | omega | exact Nat.le_refl _⟩, ⟨by repeat (first | (with_reducible first | exact HB.out | apply below_alloc | apply pw_below_drewN | apply below_drew1) | exact HB.out)⟩⟩
                  · rw [if_neg c24] at H
                    exact absurd H (by simp)
                case rest =>
                  clear HC23
                  try clear c1
                  try clear p1
                  try clear q1
                  try clear hx1
                  try clear c2
                  try clear c2b0
                  try clear c2b1
                  try clear p2
                  try clear q2
                  try clear hx2
                  try clear qi2
                  try clear c5
                  try clear c5b0
                  try clear c5b1
                  try clear p6
                  try clear q6
                  try clear hx6
                  try clear qi6
                  try clear c8
                  try clear c8b0
                  try clear c8b1
                  try clear c9
                  try clear c9b0
                  try clear c9b1
                  try clear c10
                  try clear c10b0
                  try clear c10b1
                  try clear c11
                  try clear c14
                  try clear c14b0
                  try clear c15
                  try clear c15b0
                  try clear p16
                  try clear q16
                  try clear hx16
                  try clear c17
                  try clear c17b0
                  try clear p18
                  try clear q18
                  try clear hx18
                  try clear c19
                  try clear c19b0
                  try clear c20
                  try clear c20b0
                  try clear c24
                  try clear c24b0
                  try clear c24b1
                  try clear p25
                  try clear q25
                  try clear hx25
                  try clear qi25
                  try clear c26
                  try clear c26b0
                  try clear c26b1
                  try clear p1
                  try clear p16
                  try clear p18
                  try clear p2
                  try clear p25
                  try clear p6
                  try clear q1
                  try clear q16
                  try clear q18
                  try clear q25
                  try clear q6
                  obtain ⟨kq, x46_22, rfl, HA, HJ22, HB⟩ := hcut
                  cases kq with
                  | zero => exact absurd HA.out (by simp [fastjson_validateNumber.j3])
                  | succ kj22 =>
                    have H := HA.out
                    clear HA
                    simp only [fastjson_validateNumber.j3] at H
                    by_cases c27 : x46_22 = true
                    · subst c27
                      have H1 : ((errors_New.f (⟨#[117, 110, 101, 120, 112, 101, 99, 116, 101, 100, 32, 110, 117, 109, 98, 101, 114, 32, 115, 116, 97, 114, 116, 105, 110, 103, 32, 102, 114, 111, 109, 32, 48]⟩ : ByteArray)).bind fun t135 => (some (x0_6, t135))) = some (r1, r2) := by rw [if_pos rfl] at H; exact H
                      clear H
                      have H := H1
                      clear H1
                      replace H := Option.bind_eq_some_iff.mp H
                      obtain ⟨t135, A280, H⟩ := H
                      replace H : (some (x0_6, t135)) = some (r1, r2) := H
                      have A28 := Aside0.mk A280
                      clear A280
                      simp only [Option.some.injEq, Prod.mk.injEq] at H
                      obtain ⟨rfl, rfl⟩ := H
                      go_wp2_with (first | ((with_reducible refine gate_callee (f := 84) rfl ?_); refine goesL_ (some 48) rfl rfl Tryd.func84 (by kernel_rfl) rfl #[.string (⟨#[117, 110, 101, 120, 112, 101, 99, 116, 101, 100, 32, 110, 117, 109, 98, 101, 114, 32, 115, 116, 97, 114, 116, 105, 110, 103, 32, 102, 114, 111, 109, 32, 48]⟩ : ByteArray)] rfl (by (try simp only [List.map_toArray, List.map_cons, List.map_nil]); first | done | rfl | (simp only [List.length_drop, List.length_take]; rfl)) ?_; (with_reducible refine (errors_New.calls (⟨#[117, 110, 101, 120, 112, 101, 99, 116, 101, 100, 32, 110, 117, 109, 98, 101, 114, 32, 115, 116, 97, 114, 116, 105, 110, 103, 32, 102, 114, 111, 109, 32, 48]⟩ : ByteArray) t135 _ A28.out).mono ?_); rintro e w29 ⟨ex_t135, rfl, hb⟩; refine ⟨_, rfl, ?_⟩; have n0_ := Aside0.mk (below_step (by repeat (first | (with_reducible first | exact HB.out | apply below_alloc | apply pw_below_drewN | apply below_drew1) | exact HB.out)) hb); clear HB; have HB := n0_; clear n0_; (try clear hb); (try clear hb2); (try clear hk); (try clear hi); (try simp only [errX_none, errX_some])))
                      go_ret2
                      first | exact ⟨ex_t135, by first | rfl | (simp [errX_none, errX_some] <;> rfl) | (simp [*, errX_none, errX_some] <;> rfl), by repeat (first | (with_reducible first | exact HB.out | apply below_alloc | apply pw_below_drewN | apply below_drew1) | exact HB.out)⟩ | exact ⟨ex_t135.1, ex_t135.2, by first | rfl | (simp [errX_none, errX_some] <;> rfl) | (simp [*, errX_none, errX_some] <;> rfl), by repeat (first | (with_reducible first | exact HB.out | apply below_alloc | apply pw_below_drewN | apply below_drew1) | exact HB.out)⟩ | exact ⟨⟨ex_t135, by first | rfl | (simp [errX_none, errX_some] <;> rfl) | (simp [*, errX_none, errX_some] <;> rfl)⟩, by repeat (first | (with_reducible first | exact HB.out | apply below_alloc | apply pw_below_drewN | apply below_drew1) | exact HB.out)⟩ | exact ⟨⟨ex_t135.1, ex_t135.2, by first | rfl | (simp [errX_none, errX_some] <;> rfl) | (simp [*, errX_none, errX_some] <;> rfl)⟩, by repeat (first | (with_reducible first | exact HB.out | apply below_alloc | apply pw_below_drewN | apply below_drew1) | exact HB.out)⟩
                    · replace c27 := Bool.eq_false_iff.mpr c27
                      subst c27
                      have H1 : (if x4_12 ≥ (x0_6.size : Int) then (some ((⟨#[]⟩ : ByteArray), none)) else (if 0 ≤ x4_12 then (if x4_12 < (x0_6.size : Int) then (if (bt x0_6 x4_12) = 46 then (if 0 ≤ (wrap64 (x4_12 + 1)) then (if (wrap64 (x4_12 + 1)) ≤ (x0_6.size : Int) then (if ((x0_6.extract ((wrap64 (x4_12 + 1)) : Int).toNat x0_6.size).size : Int) = 0 then ((errors_New.f (⟨#[109, 105, 115, 115, 105, 110, 103, 32, 102, 114, 97, 99, 116, 105, 111, 110, 97, 108, 32, 112, 97, 114, 116]⟩ : ByteArray)).bind fun t136 => (some (x0_6.extract ((wrap64 (x4_12 + 1)) : Int).toNat x0_6.size, t136))) else (fastjson_validateNumber.l1 kj22 (x0_6.extract ((wrap64 (x4_12 + 1)) : Int).toNat x0_6.size) 0)) else (none)) else (none)) else (fastjson_validateNumber.j6 kj22 x0_6 x4_12)) else (none)) else (none))) = some (r1, r2) := by rw [if_neg (show ¬ (false = true) by decide)] at H; exact H
                      clear H
                      have H := H1
                      clear H1
                      by_cases c30 : x4_12 ≥ (x0_6.size : Int)
                      · rw [if_pos c30] at H
                        have c30b0 : decide ((x0_6.size : Int) ≤ x4_12) = true := decide_eq_true c30
                        clear c30
                        simp only [Option.some.injEq, Prod.mk.injEq] at H
                        obtain ⟨rfl, rfl⟩ := H
                        go_wp2
                        go_ret2
                        first | exact ⟨noX, by first | rfl | (simp [errX_none, errX_some] <;> rfl) | (simp [*, errX_none, errX_some] <;> rfl), by repeat (first | (with_reducible first | exact HB.out | apply below_alloc | apply pw_below_drewN | apply below_drew1) | exact HB.out)⟩ | exact ⟨noX.1, noX.2, by first | rfl | (simp [errX_none, errX_some] <;> rfl) | (simp [*, errX_none, errX_some] <;> rfl), by repeat (first | (with_reducible first | exact HB.out | apply below_alloc | apply pw_below_drewN | apply below_drew1) | exact HB.out)⟩ | exact ⟨⟨noX, by first | rfl | (simp [errX_none, errX_some] <;> rfl) | (simp [*, errX_none, errX_some] <;> rfl)⟩, by repeat (first | (with_reducible first | exact HB.out | apply below_alloc | apply pw_below_drewN | apply below_drew1) | exact HB.out)⟩ | exact ⟨⟨noX.1, noX.2, by first | rfl | (simp [errX_none, errX_some] <;> rfl) | (simp [*, errX_none, errX_some] <;> rfl)⟩, by repeat (first | (with_reducible first | exact HB.out | apply below_alloc | apply pw_below_drewN | apply below_drew1) | exact HB.out)⟩
                      · rw [if_neg c30] at H
                        have c30b0 : decide ((x0_6.size : Int) ≤ x4_12) = false := decide_eq_false c30
                        clear c30
                        by_cases c31 : 0 ≤ x4_12
                        · rw [if_pos c31] at H
                          have c31b0 : decide (0 ≤ x4_12) = true := decide_eq_true c31
                          clear c31
                          by_cases c32 : x4_12 < (x0_6.size : Int)
                          · rw [if_pos c32] at H
                            have c32b0 : decide (x4_12 < (x0_6.size : Int)) = true := decide_eq_true c32
                            clear c32
                            have HC34 := Aside0.mk H
                            clear H
                            have p33 : 0 ≤ (x4_12 : Int) := of_decide_eq_true (by first | (with_reducible assumption) | assumption)
                            have q33 : x4_12 < (x0_6.size : Int) := of_decide_eq_true (by first | (with_reducible assumption) | assumption)
                            have hx33 := bt_at x0_6 x4_12
                            replace p33 := eq_true p33
                            replace q33 := eq_true q33
                            go_upto_if 56 with (fail)
                            go_cut [0, 4] (fun v0 v4 wc => ∃ (kq : Nat) (x0_33 : ByteArray) (x4_33 : Int), v0 = .string x0_33 ∧ v4 = .int .i64 x4_33 ∧ Aside0 (fastjson_validateNumber.j6 kq x0_33 x4_33 = some (r1, r2)) ∧ Aside0 (kq ≤ kj22) ∧ Aside0 (Below w.heap.size w wc))
                            case first =>
                              have H := HC34.out
                              clear HC34
                              by_cases c35 : (bt x0_6 x4_12) = 46
                              · rw [if_pos c35] at H
                                have c35b0 : ((bt x0_6 x4_12) == 46) = true := beq_iff_eq.mpr c35
                                have c35b1 : ((bt x0_6 x4_12) != 46) = false := bne_eq_false_iff_eq.mpr c35
                                clear c35
                                (first | rw [c35b0] | (simp only [i64_w, i32_w]; rw [c35b0]) | skip)
                                obtain ⟨ji36, hji36⟩ : ∃ j_ : Int, (wrap64 (x4_12 + 1)) = j_ := ⟨_, rfl⟩
                                replace H : (if 0 ≤ (ji36) then (if (ji36) ≤ (x0_6.size : Int) then (if ((x0_6.extract ((ji36) : Int).toNat x0_6.size).size : Int) = 0 then ((errors_New.f (⟨#[109, 105, 115, 115, 105, 110, 103, 32, 102, 114, 97, 99, 116, 105, 111, 110, 97, 108, 32, 112, 97, 114, 116]⟩ : ByteArray)).bind fun t136 => (some (x0_6.extract ((ji36) : Int).toNat x0_6.size, t136))) else (fastjson_validateNumber.l1 kj22 (x0_6.extract ((ji36) : Int).toNat x0_6.size) 0)) else (none)) else (none)) = some (r1, r2) := by first | (rw [hji36] at H; exact H) | (simp only [hji36] at H ⊢; exact H)
                                have hji36w : (IntKind.i64.wrap (x4_12 + 1)) = ji36 := (i64_w _).trans hji36
                                by_cases c37 : 0 ≤ (ji36)
                                · rw [if_pos c37] at H
                                  have c37b0 := eq_true c37
                                  have c37b1 : decide (0 ≤ (ji36)) = true := decide_eq_true c37
                                  clear c37
                                  by_cases c38 : (ji36) ≤ (x0_6.size : Int)
                                  · rw [if_pos c38] at H
                                    have c38b0 := eq_true c38
                                    have c38b1 : decide ((ji36) ≤ (x0_6.size : Int)) = true := decide_eq_true c38
                                    clear c38
                                    by_cases c39 : ((x0_6.extract ((ji36) : Int).toNat x0_6.size).size : Int) = 0
                                    · rw [if_pos c39] at H
                                      have c39b0 : (((x0_6.extract ((ji36) : Int).toNat x0_6.size).size : Int) == 0) = true := beq_iff_eq.mpr c39
                                      have c39e0 := c39b0
                                      (try simp only [ByteArray.size_extract, Nat.min_self] at c39e0)
                                      (first | have c39f0 := of_decide_eq_true c39e0 | have c39f0 := of_decide_eq_false c39e0 | skip)
                                      have c39b1 : (((x0_6.extract ((ji36) : Int).toNat x0_6.size).size : Int) != 0) = false := bne_eq_false_iff_eq.mpr c39
                                      have c39e1 := c39b1
                                      (try simp only [ByteArray.size_extract, Nat.min_self] at c39e1)
                                      (first | have c39f1 := of_decide_eq_true c39e1 | have c39f1 := of_decide_eq_false c39e1 | skip)
                                      clear c39
                                      replace H := Option.bind_eq_some_iff.mp H
                                      obtain ⟨t136, A400, H⟩ := H
                                      replace H : (some (x0_6.extract ((ji36) : Int).toNat x0_6.size, t136)) = some (r1, r2) := H
                                      have A40 := Aside0.mk A400
                                      clear A400
                                      simp only [Option.some.injEq, Prod.mk.injEq] at H
                                      obtain ⟨rfl, rfl⟩ := H
                                      go_wp2_with (first | ((with_reducible refine gate_callee (f := 84) rfl ?_); refine goesL_ (some 65) rfl rfl Tryd.func84 (by kernel_rfl) rfl #[.string (⟨#[109, 105, 115, 115, 105, 110, 103, 32, 102, 114, 97, 99, 116, 105, 111, 110, 97, 108, 32, 112, 97, 114, 116]⟩ : ByteArray)] rfl (by (try simp only [List.map_toArray, List.map_cons, List.map_nil]); first | done | rfl | (simp only [List.length_drop, List.length_take]; rfl)) ?_; (with_reducible refine (errors_New.calls (⟨#[109, 105, 115, 115, 105, 110, 103, 32, 102, 114, 97, 99, 116, 105, 111, 110, 97, 108, 32, 112, 97, 114, 116]⟩ : ByteArray) t136 _ A40.out).mono ?_); rintro e w41 ⟨ex_t136, rfl, hb⟩; refine ⟨_, rfl, ?_⟩; have n0_ := Aside0.mk (below_step (by repeat (first | (with_reducible first | exact HB.out | apply below_alloc | apply pw_below_drewN | apply below_drew1) | exact HB.out)) hb); clear HB; have HB := n0_; clear n0_; (try clear hb); (try clear hb2); (try clear hk); (try clear hi); (try simp only [errX_none, errX_some])))
                                      go_ret2
                                      first | exact ⟨ex_t136, by first | rfl | (simp [errX_none, errX_some] <;> rfl) | (simp only [← hji36]; first | rfl | (simp [errX_none, errX_some] <;> rfl)) | (simp [*, errX_none, errX_some] <;> rfl), by repeat (first | (with_reducible first | exact HB.out | apply below_alloc | apply pw_below_drewN | apply below_drew1) | exact HB.out)⟩ | exact ⟨ex_t136.1, ex_t136.2, by first | rfl | (simp [errX_none, errX_some] <;> rfl) | (simp only [← hji36]; first | rfl | (simp [errX_none, errX_some] <;> rfl)) | (simp [*, errX_none, errX_some] <;> rfl), by repeat (first | (with_reducible first | exact HB.out | apply below_alloc | apply pw_below_drewN | apply below_drew1) | exact HB.out)⟩ | exact ⟨⟨ex_t136, by first | rfl | (simp [errX_none, errX_some] <;> rfl) | (simp only [← hji36]; first | rfl | (simp [errX_none, errX_some] <;> rfl)) | (simp [*, errX_none, errX_some] <;> rfl)⟩, by repeat (first | (with_reducible first | exact HB.out | apply below_alloc | apply pw_below_drewN | apply below_drew1) | exact HB.out)⟩ | exact ⟨⟨ex_t136.1, ex_t136.2, by first | rfl | (simp [errX_none, errX_some] <;> rfl) | (simp only [← hji36]; first | rfl | (simp [errX_none, errX_some] <;> rfl)) | (simp [*, errX_none, errX_some] <;> rfl)⟩, by repeat (first | (with_reducible first | exact HB.out | apply below_alloc | apply pw_below_drewN | apply below_drew1) | exact HB.out)⟩
                                    · rw [if_neg c39] at H
                                      have c39b0 : (((x0_6.extract ((ji36) : Int).toNat x0_6.size).size : Int) == 0) = false := beq_eq_false_iff_ne.mpr c39
                                      have c39e0 := c39b0
                                      (try simp only [ByteArray.size_extract, Nat.min_self] at c39e0)
                                      (first | have c39f0 := of_decide_eq_true c39e0 | have c39f0 := of_decide_eq_false c39e0 | skip)
                                      have c39b1 : (((x0_6.extract ((ji36) : Int).toNat x0_6.size).size : Int) != 0) = true := bne_iff_ne.mpr c39
                                      have c39e1 := c39b1
                                      (try simp only [ByteArray.size_extract, Nat.min_self] at c39e1)
                                      (first | have c39f1 := of_decide_eq_true c39e1 | have c39f1 := of_decide_eq_false c39e1 | skip)
                                      have HC42 := Aside0.mk H
                                      clear H
                                      go_upto_block 2 with (fail)
                                      go_cut [4] (fun v4 wc => ∃ (kq : Nat) (x4_41 : Int), v4 = .int .i64 x4_41 ∧ Aside0 (fastjson_validateNumber.j5 kq (x0_6.extract ((ji36) : Int).toNat x0_6.size) x4_41 = some (r1, r2)) ∧ Aside0 (kq ≤ kj22) ∧ Aside0 (Below w.heap.size w wc))
                                      case first =>
                                        have H := HC42.out
                                        clear HC42
                                        have H' := Aside0.mk H
                                        clear H
                                        go_wp2
                                        (try simp only [Act.put, List.setIfInBounds_toArray, List.set_cons_zero, List.set_cons_succ])
                                        go_loopg [4] kj22 (fun kq v4 w' => ∃ (x4_4 : Int), v4 = .int .i64 x4_4 ∧ Aside0 (fastjson_validateNumber.l1 kq (x0_6.extract ((ji36) : Int).toNat x0_6.size) x4_4 = some (r1, r2)) ∧ Aside0 (kq ≤ kj22) ∧ Aside0 (Below w.heap.size w w'))
                                        case atStart => exact ⟨(0), (by first | rfl | (simp; done) | (simp [*]; done)), H', ⟨Nat.le_refl _⟩, ⟨by repeat (first | (with_reducible first | exact HB.out | apply below_alloc | apply pw_below_drewN | apply below_drew1) | exact HB.out)⟩⟩
                                        case round =>
                                          clear H'
                                          try clear c1
                                          try clear p1
                                          try clear q1
                                          try clear hx1
                                          try clear c2
                                          try clear c2b0
                                          try clear c2b1
                                          try clear p2
                                          try clear q2
                                          try clear hx2
                                          try clear qi2
                                          try clear c3
                                          try clear p3
                                          try clear q3
                                          try clear hx3
                                          try clear c5
                                          try clear c5b0
                                          try clear c5b1
                                          try clear p6
                                          try clear q6
                                          try clear hx6
                                          try clear qi6
                                          try clear c8
                                          try clear c8b0
                                          try clear c8b1
                                          try clear c9
                                          try clear c9b0
                                          try clear c9b1
                                          try clear c10
                                          try clear c10b0
                                          try clear c10b1
                                          try clear c11
                                          try clear c14
                                          try clear c14b0
                                          try clear c15
                                          try clear c15b0
                                          try clear p16
                                          try clear q16
                                          try clear hx16
                                          try clear c17
                                          try clear c17b0
                                          try clear p18
                                          try clear q18
                                          try clear hx18
                                          try clear c19
                                          try clear c19b0
                                          try clear c20
                                          try clear c20b0
                                          try clear c24
                                          try clear c24b0
                                          try clear c24b1
                                          try clear p25
                                          try clear q25
                                          try clear hx25
                                          try clear qi25
                                          try clear c26
                                          try clear c26b0
                                          try clear c26b1
                                          try clear c27
                                          try clear c30
                                          try clear c30b0
                                          try clear c31
                                          try clear c31b0
                                          try clear c32
                                          try clear c32b0
                                          try clear p33
                                          try clear q33
                                          try clear hx33
                                          try clear c35
                                          try clear c35b0
                                          try clear c35b1
                                          try clear c37
                                          try clear c37b0
                                          try clear c37b1
                                          try clear c38
                                          try clear c38b0
                                          try clear c38b1
                                          try clear c39
                                          try clear c39b0
                                          try clear c39b1
                                          try clear p1
                                          try clear p16
                                          try clear p18
                                          try clear p2
                                          try clear p25
                                          try clear p33
                                          try clear p6
                                          try clear q1
                                          try clear q16
                                          try clear q18
                                          try clear q2
                                          try clear q25
                                          try clear q33
                                          try clear q6
                                          obtain ⟨x4_4, rfl, HA, HK4, HB⟩ := hrel
                                          cases gk with
                                          | zero => exact absurd HA.out (by simp [fastjson_validateNumber.l1])
                                          | succ k4 =>
                                            have H := HA.out
                                            clear HA
                                            simp only [fastjson_validateNumber.l1] at H
                                            by_cases c43 : x4_4 < ((x0_6.extract ((ji36) : Int).toNat x0_6.size).size : Int)
                                            · rw [if_pos c43] at H
                                              have c43b0 : decide (x4_4 < ((x0_6.extract ((ji36) : Int).toNat x0_6.size).size : Int)) = true := decide_eq_true c43
                                              have c43e0 := c43b0
                                              (try simp only [ByteArray.size_extract, Nat.min_self] at c43e0)
                                              (first | have c43f0 := of_decide_eq_true c43e0 | have c43f0 := of_decide_eq_false c43e0 | skip)
                                              clear c43
                                              (first | rw [c43b0] | (simp only [i64_w, i32_w]; rw [c43b0]) | skip)
                                              by_cases c44 : 0 ≤ x4_4
                                              · rw [if_pos c44] at H
                                                have c44b0 : decide (0 ≤ x4_4) = true := decide_eq_true c44
                                                clear c44
                                                by_cases c46 : (bt (x0_6.extract ((ji36) : Int).toNat x0_6.size) x4_4) < 48
                                                · rw [if_pos c46] at H
                                                  have c46b0 : decide ((bt (x0_6.extract ((ji36) : Int).toNat x0_6.size) x4_4) < 48) = true := decide_eq_true c46
                                                  clear c46
                                                  have H' := Aside0.mk H
                                                  clear H
                                                  have p45 : 0 ≤ (x4_4 : Int) := of_decide_eq_true (by first | (with_reducible assumption) | assumption)
                                                  have q45 : x4_4 < ((x0_6.extract ((ji36) : Int).toNat x0_6.size).size : Int) := of_decide_eq_true (by first | (with_reducible assumption) | assumption)
                                                  have hx45 := bt_at (x0_6.extract ((ji36) : Int).toNat x0_6.size) x4_4
                                                  replace p45 := eq_true p45
                                                  replace q45 := eq_true q45
                                                  go_wp2
                                                  (first | go_meet | (rw [← c2b0]; go_meet) | (rw [← c35b0]; go_meet) | (rw [← c39b0]; go_meet))
                                                  case rel => exact ⟨_, (x4_4), (by first | rfl | (simp; done) | (simp [*]; done)), H', ⟨by have := HJ6.out; have := HJ12.out; have := HJ22.out; have := HK4.out; first | omega | exact Nat.le_refl _⟩, ⟨by repeat (first | (with_reducible first | exact HB.out | apply below_alloc | apply pw_below_drewN | apply below_drew1) | exact HB.out)⟩⟩
                                                · rw [if_neg c46] at H
                                                  have c46b0 : decide ((bt (x0_6.extract ((ji36) : Int).toNat x0_6.size) x4_4) < 48) = false := decide_eq_false c46
                                                  clear c46
                                                  by_cases c48 : (bt (x0_6.extract ((ji36) : Int).toNat x0_6.size) x4_4) > 57
                                                  · rw [if_pos c48] at H
                                                    have c48b0 : decide (57 < (bt (x0_6.extract ((ji36) : Int).toNat x0_6.size) x4_4)) = true := decide_eq_true c48
                                                    clear c48
                                                    have H' := Aside0.mk H
                                                    clear H
                                                    have p45 : 0 ≤ (x4_4 : Int) := of_decide_eq_true (by first | (with_reducible assumption) | assumption)
                                                    have q45 : x4_4 < ((x0_6.extract ((ji36) : Int).toNat x0_6.size).size : Int) := of_decide_eq_true (by first | (with_reducible assumption) | assumption)
                                                    have hx45 := bt_at (x0_6.extract ((ji36) : Int).toNat x0_6.size) x4_4
                                                    replace p45 := eq_true p45
                                                    replace q45 := eq_true q45
                                                    have p47 : 0 ≤ (x4_4 : Int) := of_decide_eq_true (by first | (with_reducible assumption) | assumption)
                                                    have q47 : x4_4 < ((x0_6.extract ((ji36) : Int).toNat x0_6.size).size : Int) := of_decide_eq_true (by first | (with_reducible assumption) | assumption)
                                                    have hx47 := bt_at (x0_6.extract ((ji36) : Int).toNat x0_6.size) x4_4
                                                    replace p47 := eq_true p47
                                                    replace q47 := eq_true q47
                                                    go_wp2
                                                    (first | go_meet | (rw [← c2b0]; go_meet) | (rw [← c35b0]; go_meet) | (rw [← c39b0]; go_meet))
                                                    case rel => exact ⟨_, (x4_4), (by first | rfl | (simp; done) | (simp [*]; done)), H', ⟨by have := HJ6.out; have := HJ12.out; have := HJ22.out; have := HK4.out; first | omega | exact Nat.le_refl _⟩, ⟨by repeat (first | (with_reducible first | exact HB.out | apply below_alloc | apply pw_below_drewN | apply below_drew1) | exact HB.out)⟩⟩
                                                  · rw [if_neg c48] at H
                                                    have c48b0 : decide (57 < (bt (x0_6.extract ((ji36) : Int).toNat x0_6.size) x4_4)) = false := decide_eq_false c48
                                                    clear c48
                                                    have H' := Aside0.mk H
                                                    clear H
                                                    have p45 : 0 ≤ (x4_4 : Int) := of_decide_eq_true (by first | (with_reducible assumption) | assumption)
                                                    have q45 : x4_4 < ((x0_6.extract ((ji36) : Int).toNat x0_6.size).size : Int) := of_decide_eq_true (by first | (with_reducible assumption) | assumption)
                                                    have hx45 := bt_at (x0_6.extract ((ji36) : Int).toNat x0_6.size) x4_4
                                                    replace p45 := eq_true p45
                                                    replace q45 := eq_true q45
                                                    have p47 : 0 ≤ (x4_4 : Int) := of_decide_eq_true (by first | (with_reducible assumption) | assumption)
                                                    have q47 : x4_4 < ((x0_6.extract ((ji36) : Int).toNat x0_6.size).size : Int) := of_decide_eq_true (by first | (with_reducible assumption) | assumption)
                                                    have hx47 := bt_at (x0_6.extract ((ji36) : Int).toNat x0_6.size) x4_4
                                                    replace p47 := eq_true p47
                                                    replace q47 := eq_true q47
                                                    go_wp2
                                                    go_roundg k4
                                                    case measure => have := HJ6.out; have := HJ12.out; have := HJ22.out; have := HK4.out; omega
                                                    case rel => exact ⟨(wrap64 (x4_4 + 1)), (by first | rfl | (simp; done) | (simp [*]; done)), H', ⟨by have := HJ6.out; have := HJ12.out; have := HJ22.out; have := HK4.out; omega⟩, ⟨by repeat (first | (with_reducible first | exact HB.out | apply below_alloc | apply pw_below_drewN | apply below_drew1) | exact HB.out)⟩⟩
                                              · rw [if_neg c44] at H
                                                exact absurd H (by simp)
                                            · rw [if_neg c43] at H
                                              have c43b0 : decide (x4_4 < ((x0_6.extract ((ji36) : Int).toNat x0_6.size).size : Int)) = false := decide_eq_false c43
                                              have c43e0 := c43b0
                                              (try simp only [ByteArray.size_extract, Nat.min_self] at c43e0)
                                              (first | have c43f0 := of_decide_eq_true c43e0 | have c43f0 := of_decide_eq_false c43e0 | skip)
                                              clear c43
                                              (first | rw [c43b0] | (simp only [i64_w, i32_w]; rw [c43b0]) | skip)
                                              have H' := Aside0.mk H
                                              clear H
                                              go_wp2
                                              (first | go_meet | (rw [← c2b0]; go_meet) | (rw [← c35b0]; go_meet) | (rw [← c39b0]; go_meet))
                                              case rel => exact ⟨_, (x4_4), (by first | rfl | (simp; done) | (simp [*]; done)), H', ⟨by have := HJ6.out; have := HJ12.out; have := HJ22.out; have := HK4.out; first | omega | exact Nat.le_refl _⟩, ⟨by repeat (first | (with_reducible first | exact HB.out | apply below_alloc | apply pw_below_drewN | apply below_drew1) | exact HB.out)⟩⟩
                                      case rest =>
                                        clear HC42
                                        try clear c1
                                        try clear p1
                                        try clear q1
                                        try clear hx1
                                        try clear c2
                                        try clear c2b0
                                        try clear c2b1
                                        try clear p2
                                        try clear q2
                                        try clear hx2
                                        try clear qi2
                                        try clear c3
                                        try clear p3
                                        try clear q3
                                        try clear hx3
                                        try clear c4
                                        try clear p4
                                        try clear q4
                                        try clear hx4
                                        try clear c5
                                        try clear c5b0
                                        try clear c5b1
                                        try clear p6
                                        try clear q6
                                        try clear hx6
                                        try clear qi6
                                        try clear c8
                                        try clear c8b0
                                        try clear c8b1
                                        try clear c9
                                        try clear c9b0
                                        try clear c9b1
                                        try clear c10
                                        try clear c10b0
                                        try clear c10b1
                                        try clear c11
                                        try clear c14
                                        try clear c14b0
                                        try clear c15
                                        try clear c15b0
                                        try clear p16
                                        try clear q16
                                        try clear hx16
                                        try clear c17
                                        try clear c17b0
                                        try clear p18
                                        try clear q18
                                        try clear hx18
                                        try clear c19
                                        try clear c19b0
                                        try clear c20
                                        try clear c20b0
                                        try clear c24
                                        try clear c24b0
                                        try clear c24b1
                                        try clear p25
                                        try clear q25
                                        try clear hx25
                                        try clear qi25
                                        try clear c26
                                        try clear c26b0
                                        try clear c26b1
                                        try clear c27
                                        try clear c30
                                        try clear c30b0
                                        try clear c31
                                        try clear c31b0
                                        try clear c32
                                        try clear c32b0
                                        try clear p33
                                        try clear q33
                                        try clear hx33
                                        try clear c35
                                        try clear c35b0
                                        try clear c35b1
                                        try clear c37
                                        try clear c37b0
                                        try clear c37b1
                                        try clear c38
                                        try clear c38b0
                                        try clear c38b1
                                        try clear c39
                                        try clear c39b0
                                        try clear c39b1
                                        try clear c43
                                        try clear c43b0
                                        try clear c44
                                        try clear c44b0
                                        try clear p45
                                        try clear q45
                                        try clear hx45
                                        try clear c46
                                        try clear c46b0
                                        try clear p47
                                        try clear q47
                                        try clear hx47
                                        try clear c48
                                        try clear c48b0
                                        try clear p1
                                        try clear p16
                                        try clear p18
                                        try clear p2
                                        try clear p25
                                        try clear p3
                                        try clear p33
                                        try clear p45
                                        try clear p47
                                        try clear p6
                                        try clear q1
                                        try clear q16
                                        try clear q18
                                        try clear q2
                                        try clear q25
                                        try clear q3
                                        try clear q33
                                        try clear q45
                                        try clear q47
                                        try clear q6
                                        obtain ⟨kq, x4_41, rfl, HA, HJ41, HB⟩ := hcut
                                        cases kq with
                                        | zero => exact absurd HA.out (by simp [fastjson_validateNumber.j5])
                                        | succ kj41 =>
                                          have H := HA.out
                                          clear HA
                                          simp only [fastjson_validateNumber.j5] at H
                                          by_cases c49 : x4_41 = 0
                                          · rw [if_pos c49] at H
                                            have c49b0 : (x4_41 == 0) = true := beq_iff_eq.mpr c49
                                            have c49b1 : (x4_41 != 0) = false := bne_eq_false_iff_eq.mpr c49
                                            clear c49
                                            replace H := Option.bind_eq_some_iff.mp H
                                            obtain ⟨t137, A500, H⟩ := H
                                            replace H : (some ((x0_6.extract ((ji36) : Int).toNat x0_6.size), t137)) = some (r1, r2) := H
                                            have A50 := Aside0.mk A500
                                            clear A500
                                            simp only [Option.some.injEq, Prod.mk.injEq] at H
                                            obtain ⟨rfl, rfl⟩ := H
                                            go_wp2_with (first | ((with_reducible refine gate_callee (f := 84) rfl ?_); refine goesL_ (some 85) rfl rfl Tryd.func84 (by kernel_rfl) rfl #[.string (⟨#[101, 120, 112, 101, 99, 116, 105, 110, 103, 32, 48, 46, 46, 57, 32, 100, 105, 103, 105, 116, 32, 105, 110, 32, 102, 114, 97, 99, 116, 105, 111, 110, 97, 108, 32, 112, 97, 114, 116, 44, 32, 103, 111, 116]⟩ : ByteArray)] rfl (by (try simp only [List.map_toArray, List.map_cons, List.map_nil]); first | done | rfl | (simp only [List.length_drop, List.length_take]; rfl)) ?_; (with_reducible refine (errors_New.calls (⟨#[101, 120, 112, 101, 99, 116, 105, 110, 103, 32, 48, 46, 46, 57, 32, 100, 105, 103, 105, 116, 32, 105, 110, 32, 102, 114, 97, 99, 116, 105, 111, 110, 97, 108, 32, 112, 97, 114, 116, 44, 32, 103, 111, 116]⟩ : ByteArray) t137 _ A50.out).mono ?_); rintro e w51 ⟨ex_t137, rfl, hb⟩; refine ⟨_, rfl, ?_⟩; have n0_ := Aside0.mk (below_step (by repeat (first | (with_reducible first | exact HB.out | apply below_alloc | apply pw_below_drewN | apply below_drew1) | exact HB.out)) hb); clear HB; have HB := n0_; clear n0_; (try clear hb); (try clear hb2); (try clear hk); (try clear hi); (try simp only [errX_none, errX_some])))
                                            go_ret2
                                            first | exact ⟨ex_t137, by first | rfl | (simp [errX_none, errX_some] <;> rfl) | (simp only [← hji36]; first | rfl | (simp [errX_none, errX_some] <;> rfl)) | (simp [*, errX_none, errX_some] <;> rfl), by repeat (first | (with_reducible first | exact HB.out | apply below_alloc | apply pw_below_drewN | apply below_drew1) | exact HB.out)⟩ | exact ⟨ex_t137.1, ex_t137.2, by first | rfl | (simp [errX_none, errX_some] <;> rfl) | (simp only [← hji36]; first | rfl | (simp [errX_none, errX_some] <;> rfl)) | (simp [*, errX_none, errX_some] <;> rfl), by repeat (first | (with_reducible first | exact HB.out | apply below_alloc | apply pw_below_drewN | apply below_drew1) | exact HB.out)⟩ | exact ⟨⟨ex_t137, by first | rfl | (simp [errX_none, errX_some] <;> rfl) | (simp only [← hji36]; first | rfl | (simp [errX_none, errX_some] <;> rfl)) | (simp [*, errX_none, errX_some] <;> rfl)⟩, by repeat (first | (with_reducible first | exact HB.out | apply below_alloc | apply pw_below_drewN | apply below_drew1) | exact HB.out)⟩ | exact ⟨⟨ex_t137.1, ex_t137.2, by first | rfl | (simp [errX_none, errX_some] <;> rfl) | (simp only [← hji36]; first | rfl | (simp [errX_none, errX_some] <;> rfl)) | (simp [*, errX_none, errX_some] <;> rfl)⟩, by repeat (first | (with_reducible first | exact HB.out | apply below_alloc | apply pw_below_drewN | apply below_drew1) | exact HB.out)⟩
                                          · rw [if_neg c49] at H
                                            have c49b0 : (x4_41 == 0) = false := beq_eq_false_iff_ne.mpr c49
                                            have c49b1 : (x4_41 != 0) = true := bne_iff_ne.mpr c49
                                            by_cases c52 : x4_41 ≥ ((x0_6.extract ((ji36) : Int).toNat x0_6.size).size : Int)
                                            · rw [if_pos c52] at H
                                              have c52b0 : decide (((x0_6.extract ((ji36) : Int).toNat x0_6.size).size : Int) ≤ x4_41) = true := decide_eq_true c52
                                              have c52e0 := c52b0
                                              (try simp only [ByteArray.size_extract, Nat.min_self] at c52e0)
                                              (first | have c52f0 := of_decide_eq_true c52e0 | have c52f0 := of_decide_eq_false c52e0 | skip)
                                              clear c52
                                              simp only [Option.some.injEq, Prod.mk.injEq] at H
                                              obtain ⟨rfl, rfl⟩ := H
                                              go_wp2
                                              go_ret2
                                              first | exact ⟨noX, by first | rfl | (simp [errX_none, errX_some] <;> rfl) | (simp only [← hji36]; first | rfl | (simp [errX_none, errX_some] <;> rfl)) | (simp [*, errX_none, errX_some] <;> rfl), by repeat (first | (with_reducible first | exact HB.out | apply below_alloc | apply pw_below_drewN | apply below_drew1) | exact HB.out)⟩ | exact ⟨noX.1, noX.2, by first | rfl | (simp [errX_none, errX_some] <;> rfl) | (simp only [← hji36]; first | rfl | (simp [errX_none, errX_some] <;> rfl)) | (simp [*, errX_none, errX_some] <;> rfl), by repeat (first | (with_reducible first | exact HB.out | apply below_alloc | apply pw_below_drewN | apply below_drew1) | exact HB.out)⟩ | exact ⟨⟨noX, by first | rfl | (simp [errX_none, errX_some] <;> rfl) | (simp only [← hji36]; first | rfl | (simp [errX_none, errX_some] <;> rfl)) | (simp [*, errX_none, errX_some] <;> rfl)⟩, by repeat (first | (with_reducible first | exact HB.out | apply below_alloc | apply pw_below_drewN | apply below_drew1) | exact HB.out)⟩ | exact ⟨⟨noX.1, noX.2, by first | rfl | (simp [errX_none, errX_some] <;> rfl) | (simp only [← hji36]; first | rfl | (simp [errX_none, errX_some] <;> rfl)) | (simp [*, errX_none, errX_some] <;> rfl)⟩, by repeat (first | (with_reducible first | exact HB.out | apply below_alloc | apply pw_below_drewN | apply below_drew1) | exact HB.out)⟩
                                            · rw [if_neg c52] at H
                                              have c52b0 : decide (((x0_6.extract ((ji36) : Int).toNat x0_6.size).size : Int) ≤ x4_41) = false := decide_eq_false c52
                                              have c52e0 := c52b0
                                              (try simp only [ByteArray.size_extract, Nat.min_self] at c52e0)
                                              (first | have c52f0 := of_decide_eq_true c52e0 | have c52f0 := of_decide_eq_false c52e0 | skip)
                                              clear c52
                                              have H' := Aside0.mk H
                                              clear H
                                              go_wp2
                                              (first | go_meet | (rw [← c2b0]; go_meet) | (rw [← c35b0]; go_meet) | (rw [← c39b0]; go_meet) | (rw [← c49b0]; go_meet))
                                              case rel => exact ⟨_, ((x0_6.extract ((ji36) : Int).toNat x0_6.size)), (x4_41), (by first | rfl | (simp; done) | (simp only [← hji36] <;> (first | rfl | (simp; done))) | (simp [*]; done) | (simp only [*]; done)), (by first | rfl | (simp; done) | (simp [*]; done)), H', ⟨by have := HJ6.out; have := HJ12.out; have := HJ22.out; have := HJ41.out; first | omega | exact Nat.le_refl _⟩, ⟨by repeat (first | (with_reducible first | exact HB.out | apply below_alloc | apply pw_below_drewN | apply below_drew1) | exact HB.out)⟩⟩
                                  · rw [if_neg c38] at H
                                    exact absurd H (by simp)
                                · rw [if_neg c37] at H
                                  exact absurd H (by simp)
                              · rw [if_neg c35] at H
                                have c35b0 : ((bt x0_6 x4_12) == 46) = false := beq_eq_false_iff_ne.mpr c35
                                have c35b1 : ((bt x0_6 x4_12) != 46) = true := bne_iff_ne.mpr c35
                                (first | rw [c35b0] | (simp only [i64_w, i32_w]; rw [c35b0]) | skip)
                                have H' := Aside0.mk H
                                clear H
                                go_wp2
                                (first | go_meet | (rw [← c2b0]; go_meet) | (rw [← c35b0]; go_meet))
                                case rel => exact ⟨_, (x0_6), (x4_12), (by first | rfl | (simp; done) | (simp [*]; done)), (by first | rfl | (simp; done) | (simp [*]; done)), H', ⟨by have := HJ6.out; have := HJ12.out; have := HJ22.out; first | omega | exact Nat.le_refl _⟩, ⟨by repeat (first | (with_reducible first | exact HB.out | apply below_alloc | apply pw_below_drewN | apply below_drew1) | exact HB.out)⟩⟩
                            case rest =>
                              clear HC34
                              try clear c1
                              try clear p1
                              try clear q1
                              try clear hx1
                              try clear c2
                              try clear c2b0
                              try clear c2b1
                              try clear p2
                              try clear q2
                              try clear hx2
                              try clear qi2
                              try clear c3
                              try clear p3
                              try clear q3
                              try clear hx3
                              try clear c4
                              try clear p4
                              try clear q4
                              try clear hx4
                              try clear c5
                              try clear c5b0
                              try clear c5b1
                              try clear p6
                              try clear q6
                              try clear hx6
                              try clear qi6
                              try clear c8
                              try clear c8b0
                              try clear c8b1
                              try clear c9
                              try clear c9b0
                              try clear c9b1
                              try clear c10
                              try clear c10b0
                              try clear c10b1
                              try clear c11
                              try clear c14
                              try clear c14b0
                              try clear c15
                              try clear c15b0
                              try clear p16
                              try clear q16
                              try clear hx16
                              try clear c17
                              try clear c17b0
                              try clear p18
                              try clear q18
                              try clear hx18
                              try clear c19
                              try clear c19b0
                              try clear c20
                              try clear c20b0
                              try clear c24
                              try clear c24b0
                              try clear c24b1
                              try clear p25
                              try clear q25
                              try clear hx25
                              try clear qi25
                              try clear c26
                              try clear c26b0
                              try clear c26b1
                              try clear c27
                              try clear c30
                              try clear c30b0
                              try clear c31
                              try clear c31b0
                              try clear c32
                              try clear c32b0
                              try clear p33
                              try clear q33
                              try clear hx33
                              try clear c35
                              try clear c35b0
                              try clear c35b1
                              try clear c37
                              try clear c37b0
                              try clear c37b1
                              try clear c38
                              try clear c38b0
                              try clear c38b1
                              try clear c39
                              try clear c39b0
                              try clear c39b1
                              try clear c43
                              try clear c43b0
                              try clear c44
                              try clear c44b0
                              try clear p45
                              try clear q45
                              try clear hx45
                              try clear c46
                              try clear c46b0
                              try clear p47
                              try clear q47
                              try clear hx47
                              try clear c48
                              try clear c48b0
                              try clear c49
                              try clear c49b0
                              try clear c49b1
                              try clear c52
                              try clear c52b0
                              try clear p1
                              try clear p16
                              try clear p18
                              try clear p2
                              try clear p25
                              try clear p3
                              try clear p33
                              try clear p4
                              try clear p45
                              try clear p47
                              try clear p6
                              try clear q1
                              try clear q16
                              try clear q18
                              try clear q2
                              try clear q25
                              try clear q3
                              try clear q33
                              try clear q4
                              try clear q45
                              try clear q47
                              try clear q6
                              obtain ⟨kq, x0_33, x4_33, rfl, rfl, HA, HJ33, HB⟩ := hcut
                              cases kq with
                              | zero => exact absurd HA.out (by simp [fastjson_validateNumber.j6])
                              | succ kj33 =>
                                have H := HA.out
                                clear HA
                                simp only [fastjson_validateNumber.j6] at H
                                have HC53 := Aside0.mk H
                                clear H
                                go_upto_region 29 with (fail)
                                go_cut [99] (fun v99 wc => ∃ (kq : Nat) (x99_52 : Bool), v99 = .bool x99_52 ∧ Aside0 (fastjson_validateNumber.j7 kq x0_33 x4_33 x99_52 = some (r1, r2)) ∧ Aside0 (kq ≤ kj33) ∧ Aside0 (Below w.heap.size w wc))
                                case first =>
                                  have H := HC53.out
                                  clear HC53
                                  by_cases c54 : 0 ≤ x4_33
                                  · rw [if_pos c54] at H
                                    have c54b0 : decide (0 ≤ x4_33) = true := decide_eq_true c54
                                    clear c54
                                    (first | rw [c54b0] | (simp only [i64_w, i32_w]; rw [c54b0]) | skip)
                                    by_cases c55 : x4_33 < (x0_33.size : Int)
                                    · rw [if_pos c55] at H
                                      have c55b0 : decide (x4_33 < (x0_33.size : Int)) = true := decide_eq_true c55
                                      clear c55
                                      by_cases c57 : (bt x0_33 x4_33) = 101
                                      · rw [if_pos c57] at H
                                        have c57b0 : ((bt x0_33 x4_33) == 101) = true := beq_iff_eq.mpr c57
                                        have c57b1 : ((bt x0_33 x4_33) != 101) = false := bne_eq_false_iff_eq.mpr c57
                                        clear c57
                                        have H' := Aside0.mk H
                                        clear H
                                        have p56 : 0 ≤ (x4_33 : Int) := of_decide_eq_true (by first | (with_reducible assumption) | assumption)
                                        have q56 : x4_33 < (x0_33.size : Int) := of_decide_eq_true (by first | (with_reducible assumption) | assumption)
                                        have hx56 := bt_at x0_33 x4_33
                                        replace p56 := eq_true p56
                                        replace q56 := eq_true q56
                                        go_wp2
                                        (first | go_meet | (rw [← c2b0]; go_meet) | (rw [← c57b0]; go_meet))
                                        case rel => exact ⟨_, (true), (by first | rfl | (simp; done) | (simp [*]; done)), H', ⟨by have := HJ6.out; have := HJ12.out; have := HJ22.out; have := HJ33.out; first | omega | exact Nat.le_refl _⟩, ⟨by repeat (first | (with_reducible first | exact HB.out | apply below_alloc | apply pw_below_drewN | apply below_drew1) | exact HB.out)⟩⟩
                                      · rw [if_neg c57] at H
                                        have c57b0 : ((bt x0_33 x4_33) == 101) = false := beq_eq_false_iff_ne.mpr c57
                                        have c57b1 : ((bt x0_33 x4_33) != 101) = true := bne_iff_ne.mpr c57
                                        have H' := Aside0.mk H
                                        clear H
                                        have p56 : 0 ≤ (x4_33 : Int) := of_decide_eq_true (by first | (with_reducible assumption) | assumption)
                                        have q56 : x4_33 < (x0_33.size : Int) := of_decide_eq_true (by first | (with_reducible assumption) | assumption)
                                        have hx56 := bt_at x0_33 x4_33
                                        replace p56 := eq_true p56
                                        replace q56 := eq_true q56
                                        have p58 : 0 ≤ (x4_33 : Int) := of_decide_eq_true (by first | (with_reducible assumption) | assumption)
                                        have q58 : x4_33 < (x0_33.size : Int) := of_decide_eq_true (by first | (with_reducible assumption) | assumption)
                                        have hx58 := bt_at x0_33 x4_33
                                        replace p58 := eq_true p58
                                        replace q58 := eq_true q58
                                        go_wp2
                                        (first | go_meet | (rw [← c2b0]; go_meet) | (rw [← c57b0]; go_meet))
                                        case rel => exact ⟨_, (((bt x0_33 x4_33) == 69)), (by first | rfl | (simp; done) | (simp [*]; done)), H', ⟨by have := HJ6.out; have := HJ12.out; have := HJ22.out; have := HJ33.out; first | omega | exact Nat.le_refl _⟩, ⟨by repeat (first | (with_reducible first | exact HB.out | apply below_alloc | apply pw_below_drewN | apply below_drew1) | exact HB.out)⟩⟩
                                    · rw [if_neg c55] at H
                                      exact absurd H (by simp)
                                  · rw [if_neg c54] at H
                                    exact absurd H (by simp)
                                case rest =>
                                  clear HC53
                                  try clear c1
                                  try clear p1
                                  try clear q1
                                  try clear hx1
                                  try clear c2
                                  try clear c2b0
                                  try clear c2b1
                                  try clear p2
                                  try clear q2
                                  try clear hx2
                                  try clear qi2
                                  try clear c3
                                  try clear p3
                                  try clear q3
                                  try clear hx3
                                  try clear c4
                                  try clear p4
                                  try clear q4
                                  try clear hx4
                                  try clear c5
                                  try clear c5b0
                                  try clear c5b1
                                  try clear p5
                                  try clear q5
                                  try clear hx5
                                  try clear p6
                                  try clear q6
                                  try clear hx6
                                  try clear qi6
                                  try clear c8
                                  try clear c8b0
                                  try clear c8b1
                                  try clear c9
                                  try clear c9b0
                                  try clear c9b1
                                  try clear c10
                                  try clear c10b0
                                  try clear c10b1
                                  try clear c11
                                  try clear c14
                                  try clear c14b0
                                  try clear c15
                                  try clear c15b0
                                  try clear p16
                                  try clear q16
                                  try clear hx16
                                  try clear c17
                                  try clear c17b0
                                  try clear p18
                                  try clear q18
                                  try clear hx18
                                  try clear c19
                                  try clear c19b0
                                  try clear c20
                                  try clear c20b0
                                  try clear c24
                                  try clear c24b0
                                  try clear c24b1
                                  try clear p25
                                  try clear q25
                                  try clear hx25
                                  try clear qi25
                                  try clear c26
                                  try clear c26b0
                                  try clear c26b1
                                  try clear c27
                                  try clear c30
                                  try clear c30b0
                                  try clear c31
                                  try clear c31b0
                                  try clear c32
                                  try clear c32b0
                                  try clear p33
                                  try clear q33
                                  try clear hx33
                                  try clear c35
                                  try clear c35b0
                                  try clear c35b1
                                  try clear c37
                                  try clear c37b0
                                  try clear c37b1
                                  try clear c38
                                  try clear c38b0
                                  try clear c38b1
                                  try clear c39
                                  try clear c39b0
                                  try clear c39b1
                                  try clear c43
                                  try clear c43b0
                                  try clear c44
                                  try clear c44b0
                                  try clear p45
                                  try clear q45
                                  try clear hx45
                                  try clear c46
                                  try clear c46b0
                                  try clear p47
                                  try clear q47
                                  try clear hx47
                                  try clear c48
                                  try clear c48b0
                                  try clear c49
                                  try clear c49b0
                                  try clear c49b1
                                  try clear c52
                                  try clear c52b0
                                  try clear c54
                                  try clear c54b0
                                  try clear c55
                                  try clear c55b0
                                  try clear p56
                                  try clear q56
                                  try clear hx56
                                  try clear c57
                                  try clear c57b0
                                  try clear c57b1
                                  try clear p58
                                  try clear q58
                                  try clear hx58
                                  try clear p1
                                  try clear p16
                                  try clear p18
                                  try clear p2
                                  try clear p25
                                  try clear p3
                                  try clear p33
                                  try clear p4
                                  try clear p45
                                  try clear p47
                                  try clear p56
                                  try clear p58
                                  try clear p6
                                  try clear q1
                                  try clear q16
                                  try clear q18
                                  try clear q2
                                  try clear q25
                                  try clear q3
                                  try clear q33
                                  try clear q4
                                  try clear q45
                                  try clear q47
                                  try clear q56
                                  try clear q58
                                  try clear q6
                                  obtain ⟨kq, x99_52, rfl, HA, HJ52, HB⟩ := hcut
                                  cases kq with
                                  | zero => exact absurd HA.out (by simp [fastjson_validateNumber.j7])
                                  | succ kj52 =>
                                    have H := HA.out
                                    clear HA
                                    simp only [fastjson_validateNumber.j7] at H
                                    by_cases c59 : x99_52 = true
                                    · subst c59
                                      have H1 : (if 0 ≤ (wrap64 (x4_33 + 1)) then (if (wrap64 (x4_33 + 1)) ≤ (x0_33.size : Int) then (if ((x0_33.extract ((wrap64 (x4_33 + 1)) : Int).toNat x0_33.size).size : Int) = 0 then ((errors_New.f (⟨#[109, 105, 115, 115, 105, 110, 103, 32, 101, 120, 112, 111, 110, 101, 110, 116, 32, 112, 97, 114, 116]⟩ : ByteArray)).bind fun t138 => (some (x0_33.extract ((wrap64 (x4_33 + 1)) : Int).toNat x0_33.size, t138))) else (if 0 < ((x0_33.extract ((wrap64 (x4_33 + 1)) : Int).toNat x0_33.size).size : Int) then (if (bt (x0_33.extract ((wrap64 (x4_33 + 1)) : Int).toNat x0_33.size) 0) = 45 then (fastjson_validateNumber.j8 kj52 (x0_33.extract ((wrap64 (x4_33 + 1)) : Int).toNat x0_33.size) true) else (fastjson_validateNumber.j8 kj52 (x0_33.extract ((wrap64 (x4_33 + 1)) : Int).toNat x0_33.size) ((bt (x0_33.extract ((wrap64 (x4_33 + 1)) : Int).toNat x0_33.size) 0) == 43))) else (none))) else (none)) else (none)) = some (r1, r2) := by rw [if_pos rfl] at H; exact H
                                      clear H
                                      have H := H1
                                      clear H1
                                      obtain ⟨ji60, hji60⟩ : ∃ j_ : Int, (wrap64 (x4_33 + 1)) = j_ := ⟨_, rfl⟩
                                      replace H : (if 0 ≤ (ji60) then (if (ji60) ≤ (x0_33.size : Int) then (if ((x0_33.extract ((ji60) : Int).toNat x0_33.size).size : Int) = 0 then ((errors_New.f (⟨#[109, 105, 115, 115, 105, 110, 103, 32, 101, 120, 112, 111, 110, 101, 110, 116, 32, 112, 97, 114, 116]⟩ : ByteArray)).bind fun t138 => (some (x0_33.extract ((ji60) : Int).toNat x0_33.size, t138))) else (if 0 < ((x0_33.extract ((ji60) : Int).toNat x0_33.size).size : Int) then (if (bt (x0_33.extract ((ji60) : Int).toNat x0_33.size) 0) = 45 then (fastjson_validateNumber.j8 kj52 (x0_33.extract ((ji60) : Int).toNat x0_33.size) true) else (fastjson_validateNumber.j8 kj52 (x0_33.extract ((ji60) : Int).toNat x0_33.size) ((bt (x0_33.extract ((ji60) : Int).toNat x0_33.size) 0) == 43))) else (none))) else (none)) else (none)) = some (r1, r2) := by first | (rw [hji60] at H; exact H) | (simp only [hji60] at H ⊢; exact H)
                                      have hji60w : (IntKind.i64.wrap (x4_33 + 1)) = ji60 := (i64_w _).trans hji60
                                      by_cases c61 : 0 ≤ (ji60)
                                      · rw [if_pos c61] at H
                                        have c61b0 := eq_true c61
                                        have c61b1 : decide (0 ≤ (ji60)) = true := decide_eq_true c61
                                        clear c61
                                        by_cases c62 : (ji60) ≤ (x0_33.size : Int)
                                        · rw [if_pos c62] at H
                                          have c62b0 := eq_true c62
                                          have c62b1 : decide ((ji60) ≤ (x0_33.size : Int)) = true := decide_eq_true c62
                                          clear c62
                                          by_cases c63 : ((x0_33.extract ((ji60) : Int).toNat x0_33.size).size : Int) = 0
                                          · rw [if_pos c63] at H
                                            have c63b0 : (((x0_33.extract ((ji60) : Int).toNat x0_33.size).size : Int) == 0) = true := beq_iff_eq.mpr c63
                                            have c63e0 := c63b0
                                            (try simp only [ByteArray.size_extract, Nat.min_self] at c63e0)
                                            (first | have c63f0 := of_decide_eq_true c63e0 | have c63f0 := of_decide_eq_false c63e0 | skip)
                                            have c63b1 : (((x0_33.extract ((ji60) : Int).toNat x0_33.size).size : Int) != 0) = false := bne_eq_false_iff_eq.mpr c63
                                            have c63e1 := c63b1
                                            (try simp only [ByteArray.size_extract, Nat.min_self] at c63e1)
                                            (first | have c63f1 := of_decide_eq_true c63e1 | have c63f1 := of_decide_eq_false c63e1 | skip)
                                            clear c63
                                            replace H := Option.bind_eq_some_iff.mp H
                                            obtain ⟨t138, A640, H⟩ := H
                                            replace H : (some (x0_33.extract ((ji60) : Int).toNat x0_33.size, t138)) = some (r1, r2) := H
                                            have A64 := Aside0.mk A640
                                            clear A640
                                            simp only [Option.some.injEq, Prod.mk.injEq] at H
                                            obtain ⟨rfl, rfl⟩ := H
                                            go_wp2_with (first | ((with_reducible refine gate_callee (f := 84) rfl ?_); refine goesL_ (some 108) rfl rfl Tryd.func84 (by kernel_rfl) rfl #[.string (⟨#[109, 105, 115, 115, 105, 110, 103, 32, 101, 120, 112, 111, 110, 101, 110, 116, 32, 112, 97, 114, 116]⟩ : ByteArray)] rfl (by (try simp only [List.map_toArray, List.map_cons, List.map_nil]); first | done | rfl | (simp only [List.length_drop, List.length_take]; rfl)) ?_; (with_reducible refine (errors_New.calls (⟨#[109, 105, 115, 115, 105, 110, 103, 32, 101, 120, 112, 111, 110, 101, 110, 116, 32, 112, 97, 114, 116]⟩ : ByteArray) t138 _ A64.out).mono ?_); rintro e w65 ⟨ex_t138, rfl, hb⟩; refine ⟨_, rfl, ?_⟩; have n0_ := Aside0.mk (below_step (by repeat (first | (with_reducible first | exact HB.out | apply below_alloc | apply pw_below_drewN | apply below_drew1) | exact HB.out)) hb); clear HB; have HB := n0_; clear n0_; (try clear hb); (try clear hb2); (try clear hk); (try clear hi); (try simp only [errX_none, errX_some])))
                                            go_ret2
                                            first | exact ⟨ex_t138, by first | rfl | (simp [errX_none, errX_some] <;> rfl) | (simp only [← hji60]; first | rfl | (simp [errX_none, errX_some] <;> rfl)) | (simp [*, errX_none, errX_some] <;> rfl), by repeat (first | (with_reducible first | exact HB.out | apply below_alloc | apply pw_below_drewN | apply below_drew1) | exact HB.out)⟩ | exact ⟨ex_t138.1, ex_t138.2, by first | rfl | (simp [errX_none, errX_some] <;> rfl) | (simp only [← hji60]; first | rfl | (simp [errX_none, errX_some] <;> rfl)) | (simp [*, errX_none, errX_some] <;> rfl), by repeat (first | (with_reducible first | exact HB.out | apply below_alloc | apply pw_below_drewN | apply below_drew1) | exact HB.out)⟩ | exact ⟨⟨ex_t138, by first | rfl | (simp [errX_none, errX_some] <;> rfl) | (simp only [← hji60]; first | rfl | (simp [errX_none, errX_some] <;> rfl)) | (simp [*, errX_none, errX_some] <;> rfl)⟩, by repeat (first | (with_reducible first | exact HB.out | apply below_alloc | apply pw_below_drewN | apply below_drew1) | exact HB.out)⟩ | exact ⟨⟨ex_t138.1, ex_t138.2, by first | rfl | (simp [errX_none, errX_some] <;> rfl) | (simp only [← hji60]; first | rfl | (simp [errX_none, errX_some] <;> rfl)) | (simp [*, errX_none, errX_some] <;> rfl)⟩, by repeat (first | (with_reducible first | exact HB.out | apply below_alloc | apply pw_below_drewN | apply below_drew1) | exact HB.out)⟩
                                          · rw [if_neg c63] at H
                                            have c63b0 : (((x0_33.extract ((ji60) : Int).toNat x0_33.size).size : Int) == 0) = false := beq_eq_false_iff_ne.mpr c63
                                            have c63e0 := c63b0
                                            (try simp only [ByteArray.size_extract, Nat.min_self] at c63e0)
                                            (first | have c63f0 := of_decide_eq_true c63e0 | have c63f0 := of_decide_eq_false c63e0 | skip)
                                            have c63b1 : (((x0_33.extract ((ji60) : Int).toNat x0_33.size).size : Int) != 0) = true := bne_iff_ne.mpr c63
                                            have c63e1 := c63b1
                                            (try simp only [ByteArray.size_extract, Nat.min_self] at c63e1)
                                            (first | have c63f1 := of_decide_eq_true c63e1 | have c63f1 := of_decide_eq_false c63e1 | skip)
                                            have HC66 := Aside0.mk H
                                            clear H
                                            go_upto_region 33 with (fail)
                                            go_cut [116] (fun v116 wc => ∃ (kq : Nat) (x116_65 : Bool), v116 = .bool x116_65 ∧ Aside0 (fastjson_validateNumber.j8 kq (x0_33.extract ((ji60) : Int).toNat x0_33.size) x116_65 = some (r1, r2)) ∧ Aside0 (kq ≤ kj52) ∧ Aside0 (Below w.heap.size w wc))
                                            case first =>
                                              have H := HC66.out
                                              clear HC66
                                              by_cases c67 : 0 < ((x0_33.extract ((ji60) : Int).toNat x0_33.size).size : Int)
                                              · rw [if_pos c67] at H
                                                have c67b0 : decide (0 < ((x0_33.extract ((ji60) : Int).toNat x0_33.size).size : Int)) = true := decide_eq_true c67
                                                have c67e0 := c67b0
                                                (try simp only [ByteArray.size_extract, Nat.min_self] at c67e0)
                                                (first | have c67f0 := of_decide_eq_true c67e0 | have c67f0 := of_decide_eq_false c67e0 | skip)
                                                have c67b1 : decide (0 < (x0_33.extract ((ji60) : Int).toNat x0_33.size).size) = true := decide_eq_true (by omega)
                                                have c67e1 := c67b1
                                                (try simp only [ByteArray.size_extract, Nat.min_self] at c67e1)
                                                (first | have c67f1 := of_decide_eq_true c67e1 | have c67f1 := of_decide_eq_false c67e1 | skip)
                                                clear c67
                                                (first | rw [c67b0] | (simp only [i64_w, i32_w]; rw [c67b0]) | skip)
                                                by_cases c69 : (bt (x0_33.extract ((ji60) : Int).toNat x0_33.size) 0) = 45
                                                · rw [if_pos c69] at H
                                                  have c69b0 : ((bt (x0_33.extract ((ji60) : Int).toNat x0_33.size) 0) == 45) = true := beq_iff_eq.mpr c69
                                                  have c69b1 : ((bt (x0_33.extract ((ji60) : Int).toNat x0_33.size) 0) != 45) = false := bne_eq_false_iff_eq.mpr c69
                                                  clear c69
                                                  have H' := Aside0.mk H
                                                  clear H
                                                  have p68 : 0 ≤ (0 : Int) := (by omega)
                                                  have q68 : 0 < (x0_33.extract ((ji60) : Int).toNat x0_33.size).size := (by have : (0 : Int) < ((x0_33.extract ((ji60) : Int).toNat x0_33.size).size : Int) := of_decide_eq_true (by first | (with_reducible assumption) | assumption); omega)
                                                  have hx68 : ∀ h : 0 < (x0_33.extract ((ji60) : Int).toNat x0_33.size).size, (((x0_33.extract ((ji60) : Int).toNat x0_33.size)[0]'h).toNat : Int) = bt (x0_33.extract ((ji60) : Int).toNat x0_33.size) 0 := bt_at (x0_33.extract ((ji60) : Int).toNat x0_33.size) 0
                                                  clear p68
                                                  have qi68 : (0 < ((x0_33.extract ((ji60) : Int).toNat x0_33.size).size : Int)) = True := eq_true (of_decide_eq_true (by first | (with_reducible assumption) | assumption))
                                                  replace q68 := eq_true q68
                                                  go_wp2
                                                  (first | go_meet | (rw [← c2b0]; go_meet) | (rw [← c63b0]; go_meet) | (rw [← c69b0]; go_meet))
                                                  case rel => exact ⟨_, (true), (by first | rfl | (simp; done) | (simp [*]; done)), H', ⟨by have := HJ6.out; have := HJ12.out; have := HJ22.out; have := HJ33.out; have := HJ52.out; first | omega | exact Nat.le_refl _⟩, ⟨by repeat (first | (with_reducible first | exact HB.out | apply below_alloc | apply pw_below_drewN | apply below_drew1) | exact HB.out)⟩⟩
                                                · rw [if_neg c69] at H
                                                  have c69b0 : ((bt (x0_33.extract ((ji60) : Int).toNat x0_33.size) 0) == 45) = false := beq_eq_false_iff_ne.mpr c69
                                                  have c69b1 : ((bt (x0_33.extract ((ji60) : Int).toNat x0_33.size) 0) != 45) = true := bne_iff_ne.mpr c69
                                                  have H' := Aside0.mk H
                                                  clear H
                                                  have p68 : 0 ≤ (0 : Int) := (by omega)
                                                  have q68 : 0 < (x0_33.extract ((ji60) : Int).toNat x0_33.size).size := (by have : (0 : Int) < ((x0_33.extract ((ji60) : Int).toNat x0_33.size).size : Int) := of_decide_eq_true (by first | (with_reducible assumption) | assumption); omega)
                                                  have hx68 : ∀ h : 0 < (x0_33.extract ((ji60) : Int).toNat x0_33.size).size, (((x0_33.extract ((ji60) : Int).toNat x0_33.size)[0]'h).toNat : Int) = bt (x0_33.extract ((ji60) : Int).toNat x0_33.size) 0 := bt_at (x0_33.extract ((ji60) : Int).toNat x0_33.size) 0
                                                  clear p68
                                                  have qi68 : (0 < ((x0_33.extract ((ji60) : Int).toNat x0_33.size).size : Int)) = True := eq_true (of_decide_eq_true (by first | (with_reducible assumption) | assumption))
                                                  replace q68 := eq_true q68
                                                  have p70 : 0 ≤ (0 : Int) := (by omega)
                                                  have q70 : 0 < (x0_33.extract ((ji60) : Int).toNat x0_33.size).size := (by have : (0 : Int) < ((x0_33.extract ((ji60) : Int).toNat x0_33.size).size : Int) := of_decide_eq_true (by first | (with_reducible assumption) | assumption); omega)
                                                  have hx70 : ∀ h : 0 < (x0_33.extract ((ji60) : Int).toNat x0_33.size).size, (((x0_33.extract ((ji60) : Int).toNat x0_33.size)[0]'h).toNat : Int) = bt (x0_33.extract ((ji60) : Int).toNat x0_33.size) 0 := bt_at (x0_33.extract ((ji60) : Int).toNat x0_33.size) 0
                                                  clear p70
                                                  have qi70 : (0 < ((x0_33.extract ((ji60) : Int).toNat x0_33.size).size : Int)) = True := eq_true (of_decide_eq_true (by first | (with_reducible assumption) | assumption))
                                                  replace q70 := eq_true q70
                                                  go_wp2
                                                  (first | go_meet | (rw [← c2b0]; go_meet) | (rw [← c63b0]; go_meet) | (rw [← c69b0]; go_meet))
                                                  case rel => exact ⟨_, (((bt (x0_33.extract ((ji60) : Int).toNat x0_33.size) 0) == 43)), (by first | rfl | (simp; done) | (simp only [← hji60] <;> (first | rfl | (simp; done))) | (simp [*]; done) | (simp only [*]; done)), H', ⟨by have := HJ6.out; have := HJ12.out; have := HJ22.out; have := HJ33.out; have := HJ52.out; first | omega | exact Nat.le_refl _⟩, ⟨by repeat (first | (with_reducible first | exact HB.out | apply below_alloc | apply pw_below_drewN | apply below_drew1) | exact HB.out)⟩⟩
                                              · rw [if_neg c67] at H
                                                exact absurd H (by simp)
                                            case rest =>
                                              clear HC66
                                              try clear c1
                                              try clear p1
                                              try clear q1
                                              try clear hx1
                                              try clear c2
                                              try clear c2b0
                                              try clear c2b1
                                              try clear p2
                                              try clear q2
                                              try clear hx2
                                              try clear qi2
                                              try clear c3
                                              try clear p3
                                              try clear q3
                                              try clear hx3
                                              try clear c4
                                              try clear p4
                                              try clear q4
                                              try clear hx4
                                              try clear c5
                                              try clear c5b0
                                              try clear c5b1
                                              try clear p5
                                              try clear q5
                                              try clear hx5
                                              try clear c6
                                              try clear p6
                                              try clear q6
                                              try clear hx6
                                              try clear qi6
                                              try clear p7
                                              try clear q7
                                              try clear hx7
                                              try clear qi7
                                              try clear c8
                                              try clear c8b0
                                              try clear c8b1
                                              try clear c9
                                              try clear c9b0
                                              try clear c9b1
                                              try clear c10
                                              try clear c10b0
                                              try clear c10b1
                                              try clear c11
                                              try clear c14
                                              try clear c14b0
                                              try clear c15
                                              try clear c15b0
                                              try clear p16
                                              try clear q16
                                              try clear hx16
                                              try clear c17
                                              try clear c17b0
                                              try clear p18
                                              try clear q18
                                              try clear hx18
                                              try clear c19
                                              try clear c19b0
                                              try clear c20
                                              try clear c20b0
                                              try clear c24
                                              try clear c24b0
                                              try clear c24b1
                                              try clear p25
                                              try clear q25
                                              try clear hx25
                                              try clear qi25
                                              try clear c26
                                              try clear c26b0
                                              try clear c26b1
                                              try clear c27
                                              try clear c30
                                              try clear c30b0
                                              try clear c31
                                              try clear c31b0
                                              try clear c32
                                              try clear c32b0
                                              try clear p33
                                              try clear q33
                                              try clear hx33
                                              try clear c35
                                              try clear c35b0
                                              try clear c35b1
                                              try clear c37
                                              try clear c37b0
                                              try clear c37b1
                                              try clear c38
                                              try clear c38b0
                                              try clear c38b1
                                              try clear c39
                                              try clear c39b0
                                              try clear c39b1
                                              try clear c43
                                              try clear c43b0
                                              try clear c44
                                              try clear c44b0
                                              try clear p45
                                              try clear q45
                                              try clear hx45
                                              try clear c46
                                              try clear c46b0
                                              try clear p47
                                              try clear q47
                                              try clear hx47
                                              try clear c48
                                              try clear c48b0
                                              try clear c49
                                              try clear c49b0
                                              try clear c49b1
                                              try clear c52
                                              try clear c52b0
                                              try clear c54
                                              try clear c54b0
                                              try clear c55
                                              try clear c55b0
                                              try clear p56
                                              try clear q56
                                              try clear hx56
                                              try clear c57
                                              try clear c57b0
                                              try clear c57b1
                                              try clear p58
                                              try clear q58
                                              try clear hx58
                                              try clear c59
                                              try clear c61
                                              try clear c61b0
                                              try clear c61b1
                                              try clear c62
                                              try clear c62b0
                                              try clear c62b1
                                              try clear c63
                                              try clear c63b0
                                              try clear c63b1
                                              try clear p64
                                              try clear c67
                                              try clear c67b0
                                              try clear c67b1
                                              try clear p68
                                              try clear q68
                                              try clear hx68
                                              try clear qi68
                                              try clear c69
                                              try clear c69b0
                                              try clear c69b1
                                              try clear p70
                                              try clear q70
                                              try clear hx70
                                              try clear qi70
                                              try clear p1
                                              try clear p16
                                              try clear p18
                                              try clear p2
                                              try clear p25
                                              try clear p3
                                              try clear p33
                                              try clear p4
                                              try clear p45
                                              try clear p47
                                              try clear p5
                                              try clear p56
                                              try clear p58
                                              try clear p6
                                              try clear p68
                                              try clear p70
                                              try clear q1
                                              try clear q16
                                              try clear q18
                                              try clear q2
                                              try clear q25
                                              try clear q3
                                              try clear q33
                                              try clear q4
                                              try clear q45
                                              try clear q47
                                              try clear q5
                                              try clear q56
                                              try clear q58
                                              try clear q6
                                              try clear q68
                                              try clear q70
                                              obtain ⟨kq, x116_65, rfl, HA, HJ65, HB⟩ := hcut
                                              cases kq with
                                              | zero => exact absurd HA.out (by simp [fastjson_validateNumber.j8])
                                              | succ kj65 =>
                                                have H := HA.out
                                                clear HA
                                                simp only [fastjson_validateNumber.j8] at H
                                                have HC71 := Aside0.mk H
                                                clear H
                                                go_upto_if 116 with (fail)
                                                go_cut [0] (fun v0 wc => ∃ (kq : Nat) (x0_70 : ByteArray), v0 = .string x0_70 ∧ Aside0 (fastjson_validateNumber.j9 kq x0_70 = some (r1, r2)) ∧ Aside0 (kq ≤ kj65) ∧ Aside0 (Below w.heap.size w wc))
                                                case first =>
                                                  have H := HC71.out
                                                  clear HC71
                                                  by_cases c72 : x116_65 = true
                                                  · subst c72
                                                    have H1 : (if 1 ≤ ((x0_33.extract ((ji60) : Int).toNat x0_33.size).size : Int) then (if (((x0_33.extract ((ji60) : Int).toNat x0_33.size).extract 1 (x0_33.extract ((ji60) : Int).toNat x0_33.size).size).size : Int) = 0 then ((errors_New.f (⟨#[109, 105, 115, 115, 105, 110, 103, 32, 101, 120, 112, 111, 110, 101, 110, 116, 32, 112, 97, 114, 116]⟩ : ByteArray)).bind fun t139 => (some ((x0_33.extract ((ji60) : Int).toNat x0_33.size).extract 1 (x0_33.extract ((ji60) : Int).toNat x0_33.size).size, t139))) else (fastjson_validateNumber.j9 kj65 ((x0_33.extract ((ji60) : Int).toNat x0_33.size).extract 1 (x0_33.extract ((ji60) : Int).toNat x0_33.size).size))) else (none)) = some (r1, r2) := by rw [if_pos rfl] at H; exact H
                                                    clear H
                                                    have H := H1
                                                    clear H1
                                                    by_cases c73 : 1 ≤ ((x0_33.extract ((ji60) : Int).toNat x0_33.size).size : Int)
                                                    · rw [if_pos c73] at H
                                                      have c73b0 := eq_true c73
                                                      have c73e0 := c73b0
                                                      (try simp only [ByteArray.size_extract, Nat.min_self] at c73e0)
                                                      (first | have c73f0 := of_decide_eq_true c73e0 | have c73f0 := of_decide_eq_false c73e0 | skip)
                                                      have c73b1 : decide (1 ≤ ((x0_33.extract ((ji60) : Int).toNat x0_33.size).size : Int)) = true := decide_eq_true c73
                                                      have c73e1 := c73b1
                                                      (try simp only [ByteArray.size_extract, Nat.min_self] at c73e1)
                                                      (first | have c73f1 := of_decide_eq_true c73e1 | have c73f1 := of_decide_eq_false c73e1 | skip)
                                                      clear c73
                                                      by_cases c74 : (((x0_33.extract ((ji60) : Int).toNat x0_33.size).extract 1 (x0_33.extract ((ji60) : Int).toNat x0_33.size).size).size : Int) = 0
                                                      · rw [if_pos c74] at H
                                                        have c74b0 : ((((x0_33.extract ((ji60) : Int).toNat x0_33.size).extract 1 (x0_33.extract ((ji60) : Int).toNat x0_33.size).size).size : Int) == 0) = true := beq_iff_eq.mpr c74
                                                        have c74e0 := c74b0
                                                        (try simp only [ByteArray.size_extract, Nat.min_self] at c74e0)
                                                        (first | have c74f0 := of_decide_eq_true c74e0 | have c74f0 := of_decide_eq_false c74e0 | skip)
                                                        have c74b1 : ((((x0_33.extract ((ji60) : Int).toNat x0_33.size).extract 1 (x0_33.extract ((ji60) : Int).toNat x0_33.size).size).size : Int) != 0) = false := bne_eq_false_iff_eq.mpr c74
                                                        have c74e1 := c74b1
                                                        (try simp only [ByteArray.size_extract, Nat.min_self] at c74e1)
                                                        (first | have c74f1 := of_decide_eq_true c74e1 | have c74f1 := of_decide_eq_false c74e1 | skip)
                                                        clear c74
                                                        (first | rw [c74b0] | (simp only [i64_w, i32_w]; rw [c74b0]) | skip)
                                                        replace H := Option.bind_eq_some_iff.mp H
                                                        obtain ⟨t139, A750, H⟩ := H
                                                        replace H : (some ((x0_33.extract ((ji60) : Int).toNat x0_33.size).extract 1 (x0_33.extract ((ji60) : Int).toNat x0_33.size).size, t139)) = some (r1, r2) := H
                                                        have A75 := Aside0.mk A750
                                                        clear A750
                                                        simp only [Option.some.injEq, Prod.mk.injEq] at H
                                                        obtain ⟨rfl, rfl⟩ := H
                                                        go_wp2_with (first | ((with_reducible refine gate_callee (f := 84) rfl ?_); refine goesL_ (some 123) rfl rfl Tryd.func84 (by kernel_rfl) rfl #[.string (⟨#[109, 105, 115, 115, 105, 110, 103, 32, 101, 120, 112, 111, 110, 101, 110, 116, 32, 112, 97, 114, 116]⟩ : ByteArray)] rfl (by (try simp only [List.map_toArray, List.map_cons, List.map_nil]); first | done | rfl | (simp only [List.length_drop, List.length_take]; rfl)) ?_; (with_reducible refine (errors_New.calls (⟨#[109, 105, 115, 115, 105, 110, 103, 32, 101, 120, 112, 111, 110, 101, 110, 116, 32, 112, 97, 114, 116]⟩ : ByteArray) t139 _ A75.out).mono ?_); rintro e w76 ⟨ex_t139, rfl, hb⟩; refine ⟨_, rfl, ?_⟩; have n0_ := Aside0.mk (below_step (by repeat (first | (with_reducible first | exact HB.out | apply below_alloc | apply pw_below_drewN | apply below_drew1) | exact HB.out)) hb); clear HB; have HB := n0_; clear n0_; (try clear hb); (try clear hb2); (try clear hk); (try clear hi); (try simp only [errX_none, errX_some])))
                                                        go_ret2
                                                        first | exact ⟨ex_t139, by first | rfl | (simp [errX_none, errX_some] <;> rfl) | (simp only [← hji60]; first | rfl | (simp [errX_none, errX_some] <;> rfl)) | (simp [*, errX_none, errX_some] <;> rfl), by repeat (first | (with_reducible first | exact HB.out | apply below_alloc | apply pw_below_drewN | apply below_drew1) | exact HB.out)⟩ | exact ⟨ex_t139.1, ex_t139.2, by first | rfl | (simp [errX_none, errX_some] <;> rfl) | (simp only [← hji60]; first | rfl | (simp [errX_none, errX_some] <;> rfl)) | (simp [*, errX_none, errX_some] <;> rfl), by repeat (first | (with_reducible first | exact HB.out | apply below_alloc | apply pw_below_drewN | apply below_drew1) | exact HB.out)⟩ | exact ⟨⟨ex_t139, by first | rfl | (simp [errX_none, errX_some] <;> rfl) | (simp only [← hji60]; first | rfl | (simp [errX_none, errX_some] <;> rfl)) | (simp [*, errX_none, errX_some] <;> rfl)⟩, by repeat (first | (with_reducible first | exact HB.out | apply below_alloc | apply pw_below_drewN | apply below_drew1) | exact HB.out)⟩ | exact ⟨⟨ex_t139.1, ex_t139.2, by first | rfl | (simp [errX_none, errX_some] <;> rfl) | (simp only [← hji60]; first | rfl | (simp [errX_none, errX_some] <;> rfl)) | (simp [*, errX_none, errX_some] <;> rfl)⟩, by repeat (first | (with_reducible first | exact HB.out | apply below_alloc | apply pw_below_drewN | apply below_drew1) | exact HB.out)⟩
                                                      · rw [if_neg c74] at H
                                                        have c74b0 : ((((x0_33.extract ((ji60) : Int).toNat x0_33.size).extract 1 (x0_33.extract ((ji60) : Int).toNat x0_33.size).size).size : Int) == 0) = false := beq_eq_false_iff_ne.mpr c74
                                                        have c74e0 := c74b0
                                                        (try simp only [ByteArray.size_extract, Nat.min_self] at c74e0)
                                                        (first | have c74f0 := of_decide_eq_true c74e0 | have c74f0 := of_decide_eq_false c74e0 | skip)
                                                        have c74b1 : ((((x0_33.extract ((ji60) : Int).toNat x0_33.size).extract 1 (x0_33.extract ((ji60) : Int).toNat x0_33.size).size).size : Int) != 0) = true := bne_iff_ne.mpr c74
                                                        have c74e1 := c74b1
                                                        (try simp only [ByteArray.size_extract, Nat.min_self] at c74e1)
                                                        (first | have c74f1 := of_decide_eq_true c74e1 | have c74f1 := of_decide_eq_false c74e1 | skip)
                                                        (first | rw [c74b0] | (simp only [i64_w, i32_w]; rw [c74b0]) | skip)
                                                        have H' := Aside0.mk H
                                                        clear H
                                                        go_wp2
                                                        (first | go_meet | (rw [← c2b0]; go_meet) | (rw [← c63b0]; go_meet) | (rw [← c74b0]; go_meet))
                                                        case rel => exact ⟨_, ((x0_33.extract ((ji60) : Int).toNat x0_33.size).extract 1 (x0_33.extract ((ji60) : Int).toNat x0_33.size).size), (by first | rfl | (simp; done) | (simp only [← hji60] <;> (first | rfl | (simp; done))) | (simp [*]; done) | (simp only [*]; done)), H', ⟨by have := HJ6.out; have := HJ12.out; have := HJ22.out; have := HJ33.out; have := HJ52.out; have := HJ65.out; first | omega | exact Nat.le_refl _⟩, ⟨by repeat (first | (with_reducible first | exact HB.out | apply below_alloc | apply pw_below_drewN | apply below_drew1) | exact HB.out)⟩⟩
                                                    · rw [if_neg c73] at H
                                                      exact absurd H (by simp)
                                                  · replace c72 := Bool.eq_false_iff.mpr c72
                                                    subst c72
                                                    have H1 : (fastjson_validateNumber.j9 kj65 (x0_33.extract ((ji60) : Int).toNat x0_33.size)) = some (r1, r2) := by rw [if_neg (show ¬ (false = true) by decide)] at H; exact H
                                                    clear H
                                                    have H := H1
                                                    clear H1
                                                    have H' := Aside0.mk H
                                                    clear H
                                                    go_wp2
                                                    (first | go_meet | (rw [← c2b0]; go_meet) | (rw [← c63b0]; go_meet))
                                                    case rel => exact ⟨_, ((x0_33.extract ((ji60) : Int).toNat x0_33.size)), (by first | rfl | (simp; done) | (simp only [← hji60] <;> (first | rfl | (simp; done))) | (simp [*]; done) | (simp only [*]; done)), H', ⟨by have := HJ6.out; have := HJ12.out; have := HJ22.out; have := HJ33.out; have := HJ52.out; have := HJ65.out; first | omega | exact Nat.le_refl _⟩, ⟨by repeat (first | (with_reducible first | exact HB.out | apply below_alloc | apply pw_below_drewN | apply below_drew1) | exact HB.out)⟩⟩
                                                case rest =>
                                                  clear HC71
                                                  try clear c1
                                                  try clear p1
                                                  try clear q1
                                                  try clear hx1
                                                  try clear c2
                                                  try clear c2b0
                                                  try clear c2b1
                                                  try clear p2
                                                  try clear q2
                                                  try clear hx2
                                                  try clear qi2
                                                  try clear c3
                                                  try clear p3
                                                  try clear q3
                                                  try clear hx3
                                                  try clear c4
                                                  try clear p4
                                                  try clear q4
                                                  try clear hx4
                                                  try clear c5
                                                  try clear c5b0
                                                  try clear c5b1
                                                  try clear p5
                                                  try clear q5
                                                  try clear hx5
                                                  try clear c6
                                                  try clear p6
                                                  try clear q6
                                                  try clear hx6
                                                  try clear qi6
                                                  try clear c7
                                                  try clear p7
                                                  try clear q7
                                                  try clear hx7
                                                  try clear qi7
                                                  try clear c8
                                                  try clear c8b0
                                                  try clear c8b1
                                                  try clear c9
                                                  try clear c9b0
                                                  try clear c9b1
                                                  try clear c10
                                                  try clear c10b0
                                                  try clear c10b1
                                                  try clear c11
                                                  try clear c14
                                                  try clear c14b0
                                                  try clear c15
                                                  try clear c15b0
                                                  try clear p16
                                                  try clear q16
                                                  try clear hx16
                                                  try clear c17
                                                  try clear c17b0
                                                  try clear p18
                                                  try clear q18
                                                  try clear hx18
                                                  try clear c19
                                                  try clear c19b0
                                                  try clear c20
                                                  try clear c20b0
                                                  try clear c24
                                                  try clear c24b0
                                                  try clear c24b1
                                                  try clear p25
                                                  try clear q25
                                                  try clear hx25
                                                  try clear qi25
                                                  try clear c26
                                                  try clear c26b0
                                                  try clear c26b1
                                                  try clear c27
                                                  try clear c30
                                                  try clear c30b0
                                                  try clear c31
                                                  try clear c31b0
                                                  try clear c32
                                                  try clear c32b0
                                                  try clear p33
                                                  try clear q33
                                                  try clear hx33
                                                  try clear c35
                                                  try clear c35b0
                                                  try clear c35b1
                                                  try clear c37
                                                  try clear c37b0
                                                  try clear c37b1
                                                  try clear c38
                                                  try clear c38b0
                                                  try clear c38b1
                                                  try clear c39
                                                  try clear c39b0
                                                  try clear c39b1
                                                  try clear c43
                                                  try clear c43b0
                                                  try clear c44
                                                  try clear c44b0
                                                  try clear p45
                                                  try clear q45
                                                  try clear hx45
                                                  try clear c46
                                                  try clear c46b0
                                                  try clear p47
                                                  try clear q47
                                                  try clear hx47
                                                  try clear c48
                                                  try clear c48b0
                                                  try clear c49
                                                  try clear c49b0
                                                  try clear c49b1
                                                  try clear c52
                                                  try clear c52b0
                                                  try clear c54
                                                  try clear c54b0
                                                  try clear c55
                                                  try clear c55b0
                                                  try clear p56
                                                  try clear q56
                                                  try clear hx56
                                                  try clear c57
                                                  try clear c57b0
                                                  try clear c57b1
                                                  try clear p58
                                                  try clear q58
                                                  try clear hx58
                                                  try clear c59
                                                  try clear c61
                                                  try clear c61b0
                                                  try clear c61b1
                                                  try clear c62
                                                  try clear c62b0
                                                  try clear c62b1
                                                  try clear c63
                                                  try clear c63b0
                                                  try clear c63b1
                                                  try clear p64
                                                  try clear c67
                                                  try clear c67b0
                                                  try clear c67b1
                                                  try clear p68
                                                  try clear q68
                                                  try clear hx68
                                                  try clear qi68
                                                  try clear c69
                                                  try clear c69b0
                                                  try clear c69b1
                                                  try clear p70
                                                  try clear q70
                                                  try clear hx70
                                                  try clear qi70
                                                  try clear c72
                                                  try clear c73
                                                  try clear c73b0
                                                  try clear c73b1
                                                  try clear c74
                                                  try clear c74b0
                                                  try clear c74b1
                                                  try clear p1
                                                  try clear p16
                                                  try clear p18
                                                  try clear p2
                                                  try clear p25
                                                  try clear p3
                                                  try clear p33
                                                  try clear p4
                                                  try clear p45
                                                  try clear p47
                                                  try clear p5
                                                  try clear p56
                                                  try clear p58
                                                  try clear p6
                                                  try clear p64
                                                  try clear p68
                                                  try clear p7
                                                  try clear p70
                                                  try clear q1
                                                  try clear q16
                                                  try clear q18
                                                  try clear q2
                                                  try clear q25
                                                  try clear q3
                                                  try clear q33
                                                  try clear q4
                                                  try clear q45
                                                  try clear q47
                                                  try clear q5
                                                  try clear q56
                                                  try clear q58
                                                  try clear q6
                                                  try clear q68
                                                  try clear q7
                                                  try clear q70
                                                  obtain ⟨kq, x0_70, rfl, HA, HJ70, HB⟩ := hcut
                                                  cases kq with
                                                  | zero => exact absurd HA.out (by simp [fastjson_validateNumber.j9])
                                                  | succ kj70 =>
                                                    have H := HA.out
                                                    clear HA
                                                    simp only [fastjson_validateNumber.j9] at H
                                                    have HC77 := Aside0.mk H
                                                    clear H
                                                    go_upto_block 4 with (fail)
                                                    go_cut [4] (fun v4 wc => ∃ (kq : Nat) (x4_76 : Int), v4 = .int .i64 x4_76 ∧ Aside0 (fastjson_validateNumber.j11 kq x0_70 x4_76 = some (r1, r2)) ∧ Aside0 (kq ≤ kj70) ∧ Aside0 (Below w.heap.size w wc))
                                                    case first =>
                                                      have H := HC77.out
                                                      clear HC77
                                                      have H' := Aside0.mk H
                                                      clear H
                                                      go_wp2
                                                      (try simp only [Act.put, List.setIfInBounds_toArray, List.set_cons_zero, List.set_cons_succ])
                                                      go_loopg [4] kj70 (fun kq v4 w' => ∃ (x4_8 : Int), v4 = .int .i64 x4_8 ∧ Aside0 (fastjson_validateNumber.l2 kq x0_70 x4_8 = some (r1, r2)) ∧ Aside0 (kq ≤ kj70) ∧ Aside0 (Below w.heap.size w w'))
                                                      case atStart => exact ⟨(0), (by first | rfl | (simp; done) | (simp [*]; done)), H', ⟨Nat.le_refl _⟩, ⟨by repeat (first | (with_reducible first | exact HB.out | apply below_alloc | apply pw_below_drewN | apply below_drew1) | exact HB.out)⟩⟩
                                                      case round =>
                                                        clear H'
                                                        try clear c1
                                                        try clear p1
                                                        try clear q1
                                                        try clear hx1
                                                        try clear c2
                                                        try clear c2b0
                                                        try clear c2b1
                                                        try clear p2
                                                        try clear q2
                                                        try clear hx2
                                                        try clear qi2
                                                        try clear c3
                                                        try clear p3
                                                        try clear q3
                                                        try clear hx3
                                                        try clear c4
                                                        try clear p4
                                                        try clear q4
                                                        try clear hx4
                                                        try clear c5
                                                        try clear c5b0
                                                        try clear c5b1
                                                        try clear p5
                                                        try clear q5
                                                        try clear hx5
                                                        try clear c6
                                                        try clear p6
                                                        try clear q6
                                                        try clear hx6
                                                        try clear qi6
                                                        try clear c7
                                                        try clear p7
                                                        try clear q7
                                                        try clear hx7
                                                        try clear qi7
                                                        try clear c8
                                                        try clear c8b0
                                                        try clear c8b1
                                                        try clear c9
                                                        try clear c9b0
                                                        try clear c9b1
                                                        try clear c10
                                                        try clear c10b0
                                                        try clear c10b1
                                                        try clear c11
                                                        try clear c14
                                                        try clear c14b0
                                                        try clear c15
                                                        try clear c15b0
                                                        try clear p16
                                                        try clear q16
                                                        try clear hx16
                                                        try clear c17
                                                        try clear c17b0
                                                        try clear p18
                                                        try clear q18
                                                        try clear hx18
                                                        try clear c19
                                                        try clear c19b0
                                                        try clear c20
                                                        try clear c20b0
                                                        try clear c24
                                                        try clear c24b0
                                                        try clear c24b1
                                                        try clear p25
                                                        try clear q25
                                                        try clear hx25
                                                        try clear qi25
                                                        try clear c26
                                                        try clear c26b0
                                                        try clear c26b1
                                                        try clear c27
                                                        try clear c30
                                                        try clear c30b0
                                                        try clear c31
                                                        try clear c31b0
                                                        try clear c32
                                                        try clear c32b0
                                                        try clear p33
                                                        try clear q33
                                                        try clear hx33
                                                        try clear c35
                                                        try clear c35b0
                                                        try clear c35b1
                                                        try clear c37
                                                        try clear c37b0
                                                        try clear c37b1
                                                        try clear c38
                                                        try clear c38b0
                                                        try clear c38b1
                                                        try clear c39
                                                        try clear c39b0
                                                        try clear c39b1
                                                        try clear c43
                                                        try clear c43b0
                                                        try clear c44
                                                        try clear c44b0
                                                        try clear p45
                                                        try clear q45
                                                        try clear hx45
                                                        try clear c46
                                                        try clear c46b0
                                                        try clear p47
                                                        try clear q47
                                                        try clear hx47
                                                        try clear c48
                                                        try clear c48b0
                                                        try clear c49
                                                        try clear c49b0
                                                        try clear c49b1
                                                        try clear c52
                                                        try clear c52b0
                                                        try clear c54
                                                        try clear c54b0
                                                        try clear c55
                                                        try clear c55b0
                                                        try clear p56
                                                        try clear q56
                                                        try clear hx56
                                                        try clear c57
                                                        try clear c57b0
                                                        try clear c57b1
                                                        try clear p58
                                                        try clear q58
                                                        try clear hx58
                                                        try clear c59
                                                        try clear c61
                                                        try clear c61b0
                                                        try clear c61b1
                                                        try clear c62
                                                        try clear c62b0
                                                        try clear c62b1
                                                        try clear c63
                                                        try clear c63b0
                                                        try clear c63b1
                                                        try clear p64
                                                        try clear c67
                                                        try clear c67b0
                                                        try clear c67b1
                                                        try clear p68
                                                        try clear q68
                                                        try clear hx68
                                                        try clear qi68
                                                        try clear c69
                                                        try clear c69b0
                                                        try clear c69b1
                                                        try clear p70
                                                        try clear q70
                                                        try clear hx70
                                                        try clear qi70
                                                        try clear c72
                                                        try clear c73
                                                        try clear c73b0
                                                        try clear c73b1
                                                        try clear c74
                                                        try clear c74b0
                                                        try clear c74b1
                                                        try clear p1
                                                        try clear p16
                                                        try clear p18
                                                        try clear p2
                                                        try clear p25
                                                        try clear p3
                                                        try clear p33
                                                        try clear p4
                                                        try clear p45
                                                        try clear p47
                                                        try clear p5
                                                        try clear p56
                                                        try clear p58
                                                        try clear p6
                                                        try clear p64
                                                        try clear p68
                                                        try clear p7
                                                        try clear p70
                                                        try clear q1
                                                        try clear q16
                                                        try clear q18
                                                        try clear q2
                                                        try clear q25
                                                        try clear q3
                                                        try clear q33
                                                        try clear q4
                                                        try clear q45
                                                        try clear q47
                                                        try clear q5
                                                        try clear q56
                                                        try clear q58
                                                        try clear q6
                                                        try clear q68
                                                        try clear q7
                                                        try clear q70
                                                        obtain ⟨x4_8, rfl, HA, HK8, HB⟩ := hrel
                                                        cases gk with
                                                        | zero => exact absurd HA.out (by simp [fastjson_validateNumber.l2])
                                                        | succ k8 =>
                                                          have H := HA.out
                                                          clear HA
                                                          simp only [fastjson_validateNumber.l2] at H
                                                          by_cases c78 : x4_8 < (x0_70.size : Int)
                                                          · rw [if_pos c78] at H
                                                            have c78b0 : decide (x4_8 < (x0_70.size : Int)) = true := decide_eq_true c78
                                                            clear c78
                                                            (first | rw [c78b0] | (simp only [i64_w, i32_w]; rw [c78b0]) | skip)
                                                            by_cases c79 : 0 ≤ x4_8
                                                            · rw [if_pos c79] at H
                                                              have c79b0 : decide (0 ≤ x4_8) = true := decide_eq_true c79
                                                              clear c79
                                                              by_cases c81 : (bt x0_70 x4_8) < 48
                                                              · rw [if_pos c81] at H
                                                                have c81b0 : decide ((bt x0_70 x4_8) < 48) = true := decide_eq_true c81
                                                                clear c81
                                                                have H' := Aside0.mk H
                                                                clear H
                                                                have p80 : 0 ≤ (x4_8 : Int) := of_decide_eq_true (by first | (with_reducible assumption) | assumption)
                                                                have q80 : x4_8 < (x0_70.size : Int) := of_decide_eq_true (by first | (with_reducible assumption) | assumption)
                                                                have hx80 := bt_at x0_70 x4_8
                                                                replace p80 := eq_true p80
                                                                replace q80 := eq_true q80
                                                                go_wp2
                                                                (first | go_meet | (rw [← c2b0]; go_meet) | (rw [← c63b0]; go_meet))
                                                                case rel => exact ⟨_, (x4_8), (by first | rfl | (simp; done) | (simp [*]; done)), H', ⟨by have := HJ6.out; have := HJ12.out; have := HJ22.out; have := HJ33.out; have := HJ52.out; have := HJ65.out; have := HJ70.out; have := HK8.out; first | omega | exact Nat.le_refl _⟩, ⟨by repeat (first | (with_reducible first | exact HB.out | apply below_alloc | apply pw_below_drewN | apply below_drew1) | exact HB.out)⟩⟩
                                                              · rw [if_neg c81] at H
                                                                have c81b0 : decide ((bt x0_70 x4_8) < 48) = false := decide_eq_false c81
                                                                clear c81
                                                                by_cases c83 : (bt x0_70 x4_8) > 57
                                                                · rw [if_pos c83] at H
                                                                  have c83b0 : decide (57 < (bt x0_70 x4_8)) = true := decide_eq_true c83
                                                                  clear c83
                                                                  have H' := Aside0.mk H
                                                                  clear H
                                                                  have p80 : 0 ≤ (x4_8 : Int) := of_decide_eq_true (by first | (with_reducible assumption) | assumption)
                                                                  have q80 : x4_8 < (x0_70.size : Int) := of_decide_eq_true (by first | (with_reducible assumption) | assumption)
                                                                  have hx80 := bt_at x0_70 x4_8
                                                                  replace p80 := eq_true p80
                                                                  replace q80 := eq_true q80
                                                                  have p82 : 0 ≤ (x4_8 : Int) := of_decide_eq_true (by first | (with_reducible assumption) | assumption)
                                                                  have q82 : x4_8 < (x0_70.size : Int) := of_decide_eq_true (by first | (with_reducible assumption) | assumption)
                                                                  have hx82 := bt_at x0_70 x4_8
                                                                  replace p82 := eq_true p82
                                                                  replace q82 := eq_true q82
                                                                  go_wp2
                                                                  (first | go_meet | (rw [← c2b0]; go_meet) | (rw [← c63b0]; go_meet))
                                                                  case rel => exact ⟨_, (x4_8), (by first | rfl | (simp; done) | (simp [*]; done)), H', ⟨by have := HJ6.out; have := HJ12.out; have := HJ22.out; have := HJ33.out; have := HJ52.out; have := HJ65.out; have := HJ70.out; have := HK8.out; first | omega | exact Nat.le_refl _⟩, ⟨by repeat (first | (with_reducible first | exact HB.out | apply below_alloc | apply pw_below_drewN | apply below_drew1) | exact HB.out)⟩⟩
                                                                · rw [if_neg c83] at H
                                                                  have c83b0 : decide (57 < (bt x0_70 x4_8)) = false := decide_eq_false c83
                                                                  clear c83
                                                                  have H' := Aside0.mk H
                                                                  clear H
                                                                  have p80 : 0 ≤ (x4_8 : Int) := of_decide_eq_true (by first | (with_reducible assumption) | assumption)
                                                                  have q80 : x4_8 < (x0_70.size : Int) := of_decide_eq_true (by first | (with_reducible assumption) | assumption)
                                                                  have hx80 := bt_at x0_70 x4_8
                                                                  replace p80 := eq_true p80
                                                                  replace q80 := eq_true q80
                                                                  have p82 : 0 ≤ (x4_8 : Int) := of_decide_eq_true (by first | (with_reducible assumption) | assumption)
                                                                  have q82 : x4_8 < (x0_70.size : Int) := of_decide_eq_true (by first | (with_reducible assumption) | assumption)
                                                                  have hx82 := bt_at x0_70 x4_8
                                                                  replace p82 := eq_true p82
                                                                  replace q82 := eq_true q82
                                                                  go_wp2
                                                                  go_roundg k8
                                                                  case measure => have := HJ6.out; have := HJ12.out; have := HJ22.out; have := HJ33.out; have := HJ52.out; have := HJ65.out; have := HJ70.out; have := HK8.out; omega
                                                                  case rel => exact ⟨(wrap64 (x4_8 + 1)), (by first | rfl | (simp; done) | (simp [*]; done)), H', ⟨by have := HJ6.out; have := HJ12.out; have := HJ22.out; have := HJ33.out; have := HJ52.out; have := HJ65.out; have := HJ70.out; have := HK8.out; omega⟩, ⟨by repeat (first | (with_reducible first | exact HB.out | apply below_alloc | apply pw_below_drewN | apply below_drew1) | exact HB.out)⟩⟩
                                                            · rw [if_neg c79] at H
                                                              exact absurd H (by simp)
                                                          · rw [if_neg c78] at H
                                                            have c78b0 : decide (x4_8 < (x0_70.size : Int)) = false := decide_eq_false c78
                                                            clear c78
                                                            (first | rw [c78b0] | (simp only [i64_w, i32_w]; rw [c78b0]) | skip)
                                                            have H' := Aside0.mk H
                                                            clear H
                                                            go_wp2
                                                            (first | go_meet | (rw [← c2b0]; go_meet) | (rw [← c63b0]; go_meet))
                                                            case rel => exact ⟨_, (x4_8), (by first | rfl | (simp; done) | (simp [*]; done)), H', ⟨by have := HJ6.out; have := HJ12.out; have := HJ22.out; have := HJ33.out; have := HJ52.out; have := HJ65.out; have := HJ70.out; have := HK8.out; first | omega | exact Nat.le_refl _⟩, ⟨by repeat (first | (with_reducible first | exact HB.out | apply below_alloc | apply pw_below_drewN | apply below_drew1) | exact HB.out)⟩⟩
                                                    case rest =>
                                                      clear HC77
                                                      try clear c1
                                                      try clear p1
                                                      try clear q1
                                                      try clear hx1
                                                      try clear c2
                                                      try clear c2b0
                                                      try clear c2b1
                                                      try clear p2
                                                      try clear q2
                                                      try clear hx2
                                                      try clear qi2
                                                      try clear c3
                                                      try clear p3
                                                      try clear q3
                                                      try clear hx3
                                                      try clear c4
                                                      try clear p4
                                                      try clear q4
                                                      try clear hx4
                                                      try clear c5
                                                      try clear c5b0
                                                      try clear c5b1
                                                      try clear p5
                                                      try clear q5
                                                      try clear hx5
                                                      try clear c6
                                                      try clear p6
                                                      try clear q6
                                                      try clear hx6
                                                      try clear qi6
                                                      try clear c7
                                                      try clear p7
                                                      try clear q7
                                                      try clear hx7
                                                      try clear qi7
                                                      try clear c8
                                                      try clear c8b0
                                                      try clear c8b1
                                                      try clear p8
                                                      try clear q8
                                                      try clear hx8
                                                      try clear c9
                                                      try clear c9b0
                                                      try clear c9b1
                                                      try clear c10
                                                      try clear c10b0
                                                      try clear c10b1
                                                      try clear c11
                                                      try clear c14
                                                      try clear c14b0
                                                      try clear c15
                                                      try clear c15b0
                                                      try clear p16
                                                      try clear q16
                                                      try clear hx16
                                                      try clear c17
                                                      try clear c17b0
                                                      try clear p18
                                                      try clear q18
                                                      try clear hx18
                                                      try clear c19
                                                      try clear c19b0
                                                      try clear c20
                                                      try clear c20b0
                                                      try clear c24
                                                      try clear c24b0
                                                      try clear c24b1
                                                      try clear p25
                                                      try clear q25
                                                      try clear hx25
                                                      try clear qi25
                                                      try clear c26
                                                      try clear c26b0
                                                      try clear c26b1
                                                      try clear c27
                                                      try clear c30
                                                      try clear c30b0
                                                      try clear c31
                                                      try clear c31b0
                                                      try clear c32
                                                      try clear c32b0
                                                      try clear p33
                                                      try clear q33
                                                      try clear hx33
                                                      try clear c35
                                                      try clear c35b0
                                                      try clear c35b1
                                                      try clear c37
                                                      try clear c37b0
                                                      try clear c37b1
                                                      try clear c38
                                                      try clear c38b0
                                                      try clear c38b1
                                                      try clear c39
                                                      try clear c39b0
                                                      try clear c39b1
                                                      try clear c43
                                                      try clear c43b0
                                                      try clear c44
                                                      try clear c44b0
                                                      try clear p45
                                                      try clear q45
                                                      try clear hx45
                                                      try clear c46
                                                      try clear c46b0
                                                      try clear p47
                                                      try clear q47
                                                      try clear hx47
                                                      try clear c48
                                                      try clear c48b0
                                                      try clear c49
                                                      try clear c49b0
                                                      try clear c49b1
                                                      try clear c52
                                                      try clear c52b0
                                                      try clear c54
                                                      try clear c54b0
                                                      try clear c55
                                                      try clear c55b0
                                                      try clear p56
                                                      try clear q56
                                                      try clear hx56
                                                      try clear c57
                                                      try clear c57b0
                                                      try clear c57b1
                                                      try clear p58
                                                      try clear q58
                                                      try clear hx58
                                                      try clear c59
                                                      try clear c61
                                                      try clear c61b0
                                                      try clear c61b1
                                                      try clear c62
                                                      try clear c62b0
                                                      try clear c62b1
                                                      try clear c63
                                                      try clear c63b0
                                                      try clear c63b1
                                                      try clear p64
                                                      try clear c67
                                                      try clear c67b0
                                                      try clear c67b1
                                                      try clear p68
                                                      try clear q68
                                                      try clear hx68
                                                      try clear qi68
                                                      try clear c69
                                                      try clear c69b0
                                                      try clear c69b1
                                                      try clear p70
                                                      try clear q70
                                                      try clear hx70
                                                      try clear qi70
                                                      try clear c72
                                                      try clear c73
                                                      try clear c73b0
                                                      try clear c73b1
                                                      try clear c74
                                                      try clear c74b0
                                                      try clear c74b1
                                                      try clear c78
                                                      try clear c78b0
                                                      try clear c79
                                                      try clear c79b0
                                                      try clear p80
                                                      try clear q80
                                                      try clear hx80
                                                      try clear c81
                                                      try clear c81b0
                                                      try clear p82
                                                      try clear q82
                                                      try clear hx82
                                                      try clear c83
                                                      try clear c83b0
                                                      try clear p1
                                                      try clear p16
                                                      try clear p18
                                                      try clear p2
                                                      try clear p25
                                                      try clear p3
                                                      try clear p33
                                                      try clear p4
                                                      try clear p45
                                                      try clear p47
                                                      try clear p5
                                                      try clear p56
                                                      try clear p58
                                                      try clear p6
                                                      try clear p64
                                                      try clear p68
                                                      try clear p7
                                                      try clear p70
                                                      try clear p80
                                                      try clear p82
                                                      try clear q1
                                                      try clear q16
                                                      try clear q18
                                                      try clear q2
                                                      try clear q25
                                                      try clear q3
                                                      try clear q33
                                                      try clear q4
                                                      try clear q45
                                                      try clear q47
                                                      try clear q5
                                                      try clear q56
                                                      try clear q58
                                                      try clear q6
                                                      try clear q68
                                                      try clear q7
                                                      try clear q70
                                                      try clear q80
                                                      try clear q82
                                                      obtain ⟨kq, x4_76, rfl, HA, HJ76, HB⟩ := hcut
                                                      cases kq with
                                                      | zero => exact absurd HA.out (by simp [fastjson_validateNumber.j11])
                                                      | succ kj76 =>
                                                        have H := HA.out
                                                        clear HA
                                                        simp only [fastjson_validateNumber.j11] at H
                                                        by_cases c84 : x4_76 = 0
                                                        · rw [if_pos c84] at H
                                                          have c84b0 : (x4_76 == 0) = true := beq_iff_eq.mpr c84
                                                          have c84b1 : (x4_76 != 0) = false := bne_eq_false_iff_eq.mpr c84
                                                          clear c84
                                                          replace H := Option.bind_eq_some_iff.mp H
                                                          obtain ⟨t140, A850, H⟩ := H
                                                          replace H : (some (x0_70, t140)) = some (r1, r2) := H
                                                          have A85 := Aside0.mk A850
                                                          clear A850
                                                          simp only [Option.some.injEq, Prod.mk.injEq] at H
                                                          obtain ⟨rfl, rfl⟩ := H
                                                          go_wp2_with (first | ((with_reducible refine gate_callee (f := 84) rfl ?_); refine goesL_ (some 143) rfl rfl Tryd.func84 (by kernel_rfl) rfl #[.string (⟨#[101, 120, 112, 101, 99, 116, 105, 110, 103, 32, 48, 46, 46, 57, 32, 100, 105, 103, 105, 116, 32, 105, 110, 32, 101, 120, 112, 111, 110, 101, 110, 116, 32, 112, 97, 114, 116, 44, 32, 103, 111, 116]⟩ : ByteArray)] rfl (by (try simp only [List.map_toArray, List.map_cons, List.map_nil]); first | done | rfl | (simp only [List.length_drop, List.length_take]; rfl)) ?_; (with_reducible refine (errors_New.calls (⟨#[101, 120, 112, 101, 99, 116, 105, 110, 103, 32, 48, 46, 46, 57, 32, 100, 105, 103, 105, 116, 32, 105, 110, 32, 101, 120, 112, 111, 110, 101, 110, 116, 32, 112, 97, 114, 116, 44, 32, 103, 111, 116]⟩ : ByteArray) t140 _ A85.out).mono ?_); rintro e w86 ⟨ex_t140, rfl, hb⟩; refine ⟨_, rfl, ?_⟩; have n0_ := Aside0.mk (below_step (by repeat (first | (with_reducible first | exact HB.out | apply below_alloc | apply pw_below_drewN | apply below_drew1) | exact HB.out)) hb); clear HB; have HB := n0_; clear n0_; (try clear hb); (try clear hb2); (try clear hk); (try clear hi); (try simp only [errX_none, errX_some])))
                                                          go_ret2
                                                          first | exact ⟨ex_t140, by first | rfl | (simp [errX_none, errX_some] <;> rfl) | (simp only [← hji60]; first | rfl | (simp [errX_none, errX_some] <;> rfl)) | (simp [*, errX_none, errX_some] <;> rfl), by repeat (first | (with_reducible first | exact HB.out | apply below_alloc | apply pw_below_drewN | apply below_drew1) | exact HB.out)⟩ | exact ⟨ex_t140.1, ex_t140.2, by first | rfl | (simp [errX_none, errX_some] <;> rfl) | (simp only [← hji60]; first | rfl | (simp [errX_none, errX_some] <;> rfl)) | (simp [*, errX_none, errX_some] <;> rfl), by repeat (first | (with_reducible first | exact HB.out | apply below_alloc | apply pw_below_drewN | apply below_drew1) | exact HB.out)⟩ | exact ⟨⟨ex_t140, by first | rfl | (simp [errX_none, errX_some] <;> rfl) | (simp only [← hji60]; first | rfl | (simp [errX_none, errX_some] <;> rfl)) | (simp [*, errX_none, errX_some] <;> rfl)⟩, by repeat (first | (with_reducible first | exact HB.out | apply below_alloc | apply pw_below_drewN | apply below_drew1) | exact HB.out)⟩ | exact ⟨⟨ex_t140.1, ex_t140.2, by first | rfl | (simp [errX_none, errX_some] <;> rfl) | (simp only [← hji60]; first | rfl | (simp [errX_none, errX_some] <;> rfl)) | (simp [*, errX_none, errX_some] <;> rfl)⟩, by repeat (first | (with_reducible first | exact HB.out | apply below_alloc | apply pw_below_drewN | apply below_drew1) | exact HB.out)⟩
                                                        · rw [if_neg c84] at H
                                                          have c84b0 : (x4_76 == 0) = false := beq_eq_false_iff_ne.mpr c84
                                                          have c84b1 : (x4_76 != 0) = true := bne_iff_ne.mpr c84
                                                          by_cases c87 : x4_76 ≥ (x0_70.size : Int)
                                                          · rw [if_pos c87] at H
                                                            have c87b0 : decide ((x0_70.size : Int) ≤ x4_76) = true := decide_eq_true c87
                                                            clear c87
                                                            simp only [Option.some.injEq, Prod.mk.injEq] at H
                                                            obtain ⟨rfl, rfl⟩ := H
                                                            go_wp2
                                                            go_ret2
                                                            first | exact ⟨noX, by first | rfl | (simp [errX_none, errX_some] <;> rfl) | (simp only [← hji60]; first | rfl | (simp [errX_none, errX_some] <;> rfl)) | (simp [*, errX_none, errX_some] <;> rfl), by repeat (first | (with_reducible first | exact HB.out | apply below_alloc | apply pw_below_drewN | apply below_drew1) | exact HB.out)⟩ | exact ⟨noX.1, noX.2, by first | rfl | (simp [errX_none, errX_some] <;> rfl) | (simp only [← hji60]; first | rfl | (simp [errX_none, errX_some] <;> rfl)) | (simp [*, errX_none, errX_some] <;> rfl), by repeat (first | (with_reducible first | exact HB.out | apply below_alloc | apply pw_below_drewN | apply below_drew1) | exact HB.out)⟩ | exact ⟨⟨noX, by first | rfl | (simp [errX_none, errX_some] <;> rfl) | (simp only [← hji60]; first | rfl | (simp [errX_none, errX_some] <;> rfl)) | (simp [*, errX_none, errX_some] <;> rfl)⟩, by repeat (first | (with_reducible first | exact HB.out | apply below_alloc | apply pw_below_drewN | apply below_drew1) | exact HB.out)⟩ | exact ⟨⟨noX.1, noX.2, by first | rfl | (simp [errX_none, errX_some] <;> rfl) | (simp only [← hji60]; first | rfl | (simp [errX_none, errX_some] <;> rfl)) | (simp [*, errX_none, errX_some] <;> rfl)⟩, by repeat (first | (with_reducible first | exact HB.out | apply below_alloc | apply pw_below_drewN | apply below_drew1) | exact HB.out)⟩
                                                          · rw [if_neg c87] at H
                                                            have c87b0 : decide ((x0_70.size : Int) ≤ x4_76) = false := decide_eq_false c87
                                                            clear c87
                                                            by_cases c88 : 0 ≤ x4_76
                                                            · rw [if_pos c88] at H
                                                              have c88b0 := eq_true c88
                                                              have c88b1 : decide (0 ≤ x4_76) = true := decide_eq_true c88
                                                              clear c88
                                                              by_cases c89 : x4_76 ≤ (x0_70.size : Int)
                                                              · rw [if_pos c89] at H
                                                                have c89b0 := eq_true c89
                                                                have c89b1 : decide (x4_76 ≤ (x0_70.size : Int)) = true := decide_eq_true c89
                                                                clear c89
                                                                simp only [Option.some.injEq, Prod.mk.injEq] at H
                                                                obtain ⟨rfl, rfl⟩ := H
                                                                go_wp2
                                                                go_ret2
                                                                first | exact ⟨noX, by first | rfl | (simp [errX_none, errX_some] <;> rfl) | (simp only [← hji60]; first | rfl | (simp [errX_none, errX_some] <;> rfl)) | (simp [*, errX_none, errX_some] <;> rfl), by repeat (first | (with_reducible first | exact HB.out | apply below_alloc | apply pw_below_drewN | apply below_drew1) | exact HB.out)⟩ | exact ⟨noX.1, noX.2, by first | rfl | (simp [errX_none, errX_some] <;> rfl) | (simp only [← hji60]; first | rfl | (simp [errX_none, errX_some] <;> rfl)) | (simp [*, errX_none, errX_some] <;> rfl), by repeat (first | (with_reducible first | exact HB.out | apply below_alloc | apply pw_below_drewN | apply below_drew1) | exact HB.out)⟩ | exact ⟨⟨noX, by first | rfl | (simp [errX_none, errX_some] <;> rfl) | (simp only [← hji60]; first | rfl | (simp [errX_none, errX_some] <;> rfl)) | (simp [*, errX_none, errX_some] <;> rfl)⟩, by repeat (first | (with_reducible first | exact HB.out | apply below_alloc | apply pw_below_drewN | apply below_drew1) | exact HB.out)⟩ | exact ⟨⟨noX.1, noX.2, by first | rfl | (simp [errX_none, errX_some] <;> rfl) | (simp only [← hji60]; first | rfl | (simp [errX_none, errX_some] <;> rfl)) | (simp [*, errX_none, errX_some] <;> rfl)⟩, by repeat (first | (with_reducible first | exact HB.out | apply below_alloc | apply pw_below_drewN | apply below_drew1) | exact HB.out)⟩
                                                              · rw [if_neg c89] at H
                                                                exact absurd H (by simp)
                                                            · rw [if_neg c88] at H
                                                              exact absurd H (by simp)
                                        · rw [if_neg c62] at H
                                          exact absurd H (by simp)
                                      · rw [if_neg c61] at H
                                        exact absurd H (by simp)
                                    · replace c59 := Bool.eq_false_iff.mpr c59
                                      subst c59
                                      have H1 : (if 0 ≤ x4_33 then (if x4_33 ≤ (x0_33.size : Int) then (some (x0_33.extract (x4_33 : Int).toNat x0_33.size, none)) else (none)) else (none)) = some (r1, r2) := by rw [if_neg (show ¬ (false = true) by decide)] at H; exact H
                                      clear H
                                      have H := H1
                                      clear H1
                                      by_cases c90 : 0 ≤ x4_33
                                      · rw [if_pos c90] at H
                                        have c90b0 := eq_true c90
                                        have c90b1 : decide (0 ≤ x4_33) = true := decide_eq_true c90
                                        clear c90
                                        by_cases c91 : x4_33 ≤ (x0_33.size : Int)
                                        · rw [if_pos c91] at H
                                          have c91b0 := eq_true c91
                                          have c91b1 : decide (x4_33 ≤ (x0_33.size : Int)) = true := decide_eq_true c91
                                          clear c91
                                          simp only [Option.some.injEq, Prod.mk.injEq] at H
                                          obtain ⟨rfl, rfl⟩ := H
                                          go_wp2
                                          go_ret2
                                          first | exact ⟨noX, by first | rfl | (simp [errX_none, errX_some] <;> rfl) | (simp [*, errX_none, errX_some] <;> rfl), by repeat (first | (with_reducible first | exact HB.out | apply below_alloc | apply pw_below_drewN | apply below_drew1) | exact HB.out)⟩ | exact ⟨noX.1, noX.2, by first | rfl | (simp [errX_none, errX_some] <;> rfl) | (simp [*, errX_none, errX_some] <;> rfl), by repeat (first | (with_reducible first | exact HB.out | apply below_alloc | apply pw_below_drewN | apply below_drew1) | exact HB.out)⟩ | exact ⟨⟨noX, by first | rfl | (simp [errX_none, errX_some] <;> rfl) | (simp [*, errX_none, errX_some] <;> rfl)⟩, by repeat (first | (with_reducible first | exact HB.out | apply below_alloc | apply pw_below_drewN | apply below_drew1) | exact HB.out)⟩ | exact ⟨⟨noX.1, noX.2, by first | rfl | (simp [errX_none, errX_some] <;> rfl) | (simp [*, errX_none, errX_some] <;> rfl)⟩, by repeat (first | (with_reducible first | exact HB.out | apply below_alloc | apply pw_below_drewN | apply below_drew1) | exact HB.out)⟩
                                        · rw [if_neg c91] at H
                                          exact absurd H (by simp)
                                      · rw [if_neg c90] at H
                                        exact absurd H (by simp)
                          · rw [if_neg c32] at H
                            exact absurd H (by simp)
                        · rw [if_neg c31] at H
                          exact absurd H (by simp)
    · rw [if_neg c5] at H
      exact absurd H (by simp)

end Go.Proofs.YtfmllmlloekojaaDoor.PFnFjCheckMembers
