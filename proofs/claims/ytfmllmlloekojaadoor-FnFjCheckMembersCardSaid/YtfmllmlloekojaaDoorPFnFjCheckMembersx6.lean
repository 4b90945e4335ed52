-- Written for this claim by this session's own program (wip/xprint).
import Derived.Test.YtfmllmlloekojaaDoorPFnFjCheckMembersx0
import Derived.Test.YtfmllmlloekojaaDoorPFnFjCheckMembersx1
import Derived.Test.YtfmllmlloekojaaDoorPFnFjCheckMembersx3
import Derived.Test.YtfmllmlloekojaaDoorPFnFjCheckMembersx5
namespace Go.Proofs.YtfmllmlloekojaaDoor.PFnFjCheckMembers
open Go.RowKit Go.Proofs.YtfmllmlloekojaaDoorW.PrintWords Go.Proofs.YtfmllmlloekojaaDoorW.PrintLast Go.Proofs.YtfmllmlloekojaaDoorW.PrintMore
attribute [local go_sem] max2_int min2_int max_two min_two max_three min_three max_four min_four   -- for this text's walks alone
set_option linter.unusedVariables false
set_option linter.unusedSimpArgs false




/-! ### a group of functions that call each other: function 66, function 110, function 92 -/
mutual
def fastjson_validateObject.l0 : Nat → ByteArray → Option (ByteArray × Option Int)
  | 0, _ => none
  | k + 1, x0 => (fastjson_skipWS.f k x0).bind fun t143 => (if (t143.size : Int) = 0 then (fastjson_validateObject.j1 k t143 true) else (if 0 < (t143.size : Int) then (fastjson_validateObject.j1 k t143 ((bt t143 0) != 34)) else (none)))
def fastjson_validateObject.j1 : Nat → ByteArray → Bool → Option (ByteArray × Option Int)
  | 0, _, _ => none
  | k + 1, x0, x28 => if x28 = true then ((errors_New.f (⟨#[99, 97, 110, 110, 111, 116, 32, 102, 105, 110, 100, 32, 111, 112, 101, 110, 105, 110, 103, 32, 39, 34, 34, 32, 102, 111, 114, 32, 111, 98, 106, 101, 99, 116, 32, 107, 101, 121]⟩ : ByteArray)).bind fun t144 => (some (x0, t144))) else (if 1 ≤ (x0.size : Int) then ((fastjson_validateKey.f k (x0.extract 1 x0.size)).bind fun bt145 => (if bt145.2.2.isNone = true then (fastjson_validateObject.l1 k bt145.2.1 bt145.1 (bt145.1.size : Int) 0) else ((errors_New.f (⟨#[99, 97, 110, 110, 111, 116, 32, 112, 97, 114, 115, 101, 32, 111, 98, 106, 101, 99, 116, 32, 107, 101, 121]⟩ : ByteArray)).bind fun t160 => (some (bt145.2.1, t160))))) else (none))
def fastjson_validateObject.l1 : Nat → ByteArray → ByteArray → Int → Int → Option (ByteArray × Option Int)
  | 0, _, _, _, _ => none
  | k + 1, x0, x5, x43, x44 => if x44 < x43 then (if 0 ≤ x44 then (if x44 < (x5.size : Int) then (if (bt x5 x44) < 32 then ((errors_New.f (⟨#[111, 98, 106, 101, 99, 116, 32, 107, 101, 121, 32, 99, 97, 110, 110, 111, 116, 32, 99, 111, 110, 116, 97, 105, 110, 32, 99, 111, 110, 116, 114, 111, 108, 32, 99, 104, 97, 114, 32, 48, 120]⟩ : ByteArray)).bind fun t149 => (some (x0, t149))) else (fastjson_validateObject.l1 k x0 x5 x43 (wrap64 (x44 + 1)))) else (none)) else (none)) else ((fastjson_skipWS.f k x0).bind fun t150 => (if (t150.size : Int) = 0 then (fastjson_validateObject.j3 k t150 true) else (if 0 < (t150.size : Int) then (fastjson_validateObject.j3 k t150 ((bt t150 0) != 58)) else (none))))
def fastjson_validateObject.j3 : Nat → ByteArray → Bool → Option (ByteArray × Option Int)
  | 0, _, _ => none
  | k + 1, x0, x63 => if x63 = true then ((errors_New.f (⟨#[109, 105, 115, 115, 105, 110, 103, 32, 39, 58, 39, 32, 97, 102, 116, 101, 114, 32, 111, 98, 106, 101, 99, 116, 32, 107, 101, 121]⟩ : ByteArray)).bind fun t151 => (some (x0, t151))) else (if 1 ≤ (x0.size : Int) then ((fastjson_skipWS.f k (x0.extract 1 x0.size)).bind fun t152 => ((fastjson_validateValue.f k t152).bind fun bt153 => (if bt153.2.isNone = true then ((fastjson_skipWS.f k bt153.1).bind fun t156 => (if (t156.size : Int) = 0 then ((errors_New.f (⟨#[117, 110, 101, 120, 112, 101, 99, 116, 101, 100, 32, 101, 110, 100, 32, 111, 102, 32, 111, 98, 106, 101, 99, 116]⟩ : ByteArray)).bind fun t157 => (some (t156, t157))) else (if 0 < (t156.size : Int) then (if (bt t156 0) = 44 then (if 1 ≤ (t156.size : Int) then (fastjson_validateObject.l0 k (t156.extract 1 t156.size)) else (none)) else (if (bt t156 0) = 125 then (if 1 ≤ (t156.size : Int) then (some (t156.extract 1 t156.size, none)) else (none)) else ((errors_New.f (⟨#[109, 105, 115, 115, 105, 110, 103, 32, 39, 44, 39, 32, 97, 102, 116, 101, 114, 32, 111, 98, 106, 101, 99, 116, 32, 118, 97, 108, 117, 101]⟩ : ByteArray)).bind fun t158 => (some (t156, t158))))) else (none)))) else ((errors_New.f (⟨#[99, 97, 110, 110, 111, 116, 32, 112, 97, 114, 115, 101, 32, 111, 98, 106, 101, 99, 116, 32, 118, 97, 108, 117, 101]⟩ : ByteArray)).bind fun t159 => (some (bt153.1, t159)))))) else (none))
def fastjson_validateObject.f : Nat → ByteArray → Option (ByteArray × Option Int)
  | 0, _ => none
  | k + 1, a0 => (fastjson_skipWS.f k a0).bind fun t141 => (if (t141.size : Int) = 0 then ((errors_New.f (⟨#[109, 105, 115, 115, 105, 110, 103, 32, 39, 125]⟩ : ByteArray)).bind fun t142 => (some (t141, t142))) else (if 0 < (t141.size : Int) then (if (bt t141 0) = 125 then (if 1 ≤ (t141.size : Int) then (some (t141.extract 1 t141.size, none)) else (none)) else (fastjson_validateObject.l0 k t141)) else (none)))
def fastjson_validateArray.l0 : Nat → ByteArray → Option (ByteArray × Option Int)
  | 0, _ => none
  | k + 1, x0 => (fastjson_skipWS.f k x0).bind fun t163 => ((fastjson_validateValue.f k t163).bind fun bt164 => (if bt164.2.isNone = true then ((fastjson_skipWS.f k bt164.1).bind fun t167 => (if (t167.size : Int) = 0 then ((errors_New.f (⟨#[117, 110, 101, 120, 112, 101, 99, 116, 101, 100, 32, 101, 110, 100, 32, 111, 102, 32, 97, 114, 114, 97, 121]⟩ : ByteArray)).bind fun t168 => (some (t167, t168))) else (if 0 < (t167.size : Int) then (if (bt t167 0) = 44 then (if 1 ≤ (t167.size : Int) then (fastjson_validateArray.l0 k (t167.extract 1 t167.size)) else (none)) else (if (bt t167 0) = 93 then (if 1 ≤ (t167.size : Int) then (some (t167.extract 1 t167.size, none)) else (none)) else ((errors_New.f (⟨#[109, 105, 115, 115, 105, 110, 103, 32, 39, 44, 39, 32, 97, 102, 116, 101, 114, 32, 97, 114, 114, 97, 121, 32, 118, 97, 108, 117, 101]⟩ : ByteArray)).bind fun t169 => (some (t167, t169))))) else (none)))) else ((errors_New.f (⟨#[99, 97, 110, 110, 111, 116, 32, 112, 97, 114, 115, 101, 32, 97, 114, 114, 97, 121, 32, 118, 97, 108, 117, 101]⟩ : ByteArray)).bind fun t170 => (some (bt164.1, t170)))))
def fastjson_validateArray.f : Nat → ByteArray → Option (ByteArray × Option Int)
  | 0, _ => none
  | k + 1, a0 => (fastjson_skipWS.f k a0).bind fun t161 => (if (t161.size : Int) = 0 then ((errors_New.f (⟨#[109, 105, 115, 115, 105, 110, 103, 32, 39, 93]⟩ : ByteArray)).bind fun t162 => (some (t161, t162))) else (if 0 < (t161.size : Int) then (if (bt t161 0) = 93 then (if 1 ≤ (t161.size : Int) then (some (t161.extract 1 t161.size, none)) else (none)) else (fastjson_validateArray.l0 k t161)) else (none)))
def fastjson_validateValue.l0 : Nat → ByteArray → ByteArray → Int → Int → Option (ByteArray × Option Int)
  | 0, _, _, _, _ => none
  | k + 1, x8, x9, x62, x63 => if x63 < x62 then (if 0 ≤ x63 then (if x63 < (x8.size : Int) then (if (bt x8 x63) < 32 then ((errors_New.f (⟨#[115, 116, 114, 105, 110, 103, 32, 99, 97, 110, 110, 111, 116, 32, 99, 111, 110, 116, 97, 105, 110, 32, 99, 111, 110, 116, 114, 111, 108, 32, 99, 104, 97, 114, 32, 48, 120]⟩ : ByteArray)).bind fun t184 => (some (x9, t184))) else (fastjson_validateValue.l0 k x8 x9 x62 (wrap64 (x63 + 1)))) else (none)) else (none)) else (some (x9, none))
def fastjson_validateValue.f : Nat → ByteArray → Option (ByteArray × Option Int)
  | 0, _ => none
  | k + 1, a0 => if (a0.size : Int) = 0 then ((errors_New.f (⟨#[99, 97, 110, 110, 111, 116, 32, 112, 97, 114, 115, 101, 32, 101, 109, 112, 116, 121, 32, 115, 116, 114, 105, 110, 103]⟩ : ByteArray)).bind fun t171 => (some (a0, t171))) else (if 0 < (a0.size : Int) then (if (bt a0 0) = 123 then (if 1 ≤ (a0.size : Int) then ((fastjson_validateObject.f k (a0.extract 1 a0.size)).bind fun bt172 => (if bt172.2.isNone = true then (some (bt172.1, none)) else ((errors_New.f (⟨#[99, 97, 110, 110, 111, 116, 32, 112, 97, 114, 115, 101, 32, 111, 98, 106, 101, 99, 116]⟩ : ByteArray)).bind fun t175 => (some (bt172.1, t175))))) else (none)) else (if (bt a0 0) = 91 then (if 1 ≤ (a0.size : Int) then ((fastjson_validateArray.f k (a0.extract 1 a0.size)).bind fun bt176 => (if bt176.2.isNone = true then (some (bt176.1, none)) else ((errors_New.f (⟨#[99, 97, 110, 110, 111, 116, 32, 112, 97, 114, 115, 101, 32, 97, 114, 114, 97, 121]⟩ : ByteArray)).bind fun t179 => (some (bt176.1, t179))))) else (none)) else (if (bt a0 0) = 34 then (if 1 ≤ (a0.size : Int) then ((fastjson_validateString.f k (a0.extract 1 a0.size)).bind fun bt180 => (if bt180.2.2.isNone = true then (fastjson_validateValue.l0 k bt180.1 bt180.2.1 (bt180.1.size : Int) 0) else ((errors_New.f (⟨#[99, 97, 110, 110, 111, 116, 32, 112, 97, 114, 115, 101, 32, 115, 116, 114, 105, 110, 103]⟩ : ByteArray)).bind fun t185 => (some (bt180.2.1, t185))))) else (none)) else (if (bt a0 0) = 116 then (if (a0.size : Int) < 4 then ((errors_New.f (⟨#[117, 110, 101, 120, 112, 101, 99, 116, 101, 100, 32, 118, 97, 108, 117, 101, 32, 102, 111, 117, 110, 100]⟩ : ByteArray)).bind fun t186 => (some (a0, t186))) else (if 0 ≤ 4 then (if 4 ≤ (a0.size : Int) then (if (a0.extract 0 4).toList = ([116, 114, 117, 101] : List UInt8) then (some (a0.extract 4 a0.size, none)) else ((errors_New.f (⟨#[117, 110, 101, 120, 112, 101, 99, 116, 101, 100, 32, 118, 97, 108, 117, 101, 32, 102, 111, 117, 110, 100]⟩ : ByteArray)).bind fun t187 => (some (a0, t187)))) else (none)) else (none))) else (if (bt a0 0) = 102 then (if (a0.size : Int) < 5 then ((errors_New.f (⟨#[117, 110, 101, 120, 112, 101, 99, 116, 101, 100, 32, 118, 97, 108, 117, 101, 32, 102, 111, 117, 110, 100]⟩ : ByteArray)).bind fun t188 => (some (a0, t188))) else (if 0 ≤ 5 then (if 5 ≤ (a0.size : Int) then (if (a0.extract 0 5).toList = ([102, 97, 108, 115, 101] : List UInt8) then (some (a0.extract 5 a0.size, none)) else ((errors_New.f (⟨#[117, 110, 101, 120, 112, 101, 99, 116, 101, 100, 32, 118, 97, 108, 117, 101, 32, 102, 111, 117, 110, 100]⟩ : ByteArray)).bind fun t189 => (some (a0, t189)))) else (none)) else (none))) else (if (bt a0 0) = 110 then (if (a0.size : Int) < 4 then ((errors_New.f (⟨#[117, 110, 101, 120, 112, 101, 99, 116, 101, 100, 32, 118, 97, 108, 117, 101, 32, 102, 111, 117, 110, 100]⟩ : ByteArray)).bind fun t190 => (some (a0, t190))) else (if 0 ≤ 4 then (if 4 ≤ (a0.size : Int) then (if (a0.extract 0 4).toList = ([110, 117, 108, 108] : List UInt8) then (some (a0.extract 4 a0.size, none)) else ((errors_New.f (⟨#[117, 110, 101, 120, 112, 101, 99, 116, 101, 100, 32, 118, 97, 108, 117, 101, 32, 102, 111, 117, 110, 100]⟩ : ByteArray)).bind fun t191 => (some (a0, t191)))) else (none)) else (none))) else ((fastjson_validateNumber.f k a0).bind fun bt192 => (if bt192.2.isNone = true then (some (bt192.1, none)) else ((errors_New.f (⟨#[99, 97, 110, 110, 111, 116, 32, 112, 97, 114, 115, 101, 32, 110, 117, 109, 98, 101, 114]⟩ : ByteArray)).bind fun t195 => (some (bt192.1, t195))))))))))) else (none))
end
theorem grp_fastjson_validateObject.mono_l : ∀ k, (∀ y0, LeO (fastjson_validateObject.f k y0) (fastjson_validateObject.f (k + 1) y0)) ∧ (∀ y0, LeO (fastjson_validateObject.l0 k y0) (fastjson_validateObject.l0 (k + 1) y0)) ∧ (∀ y0 y1, LeO (fastjson_validateObject.j1 k y0 y1) (fastjson_validateObject.j1 (k + 1) y0 y1)) ∧ (∀ y0 y1 y2 y3, LeO (fastjson_validateObject.l1 k y0 y1 y2 y3) (fastjson_validateObject.l1 (k + 1) y0 y1 y2 y3)) ∧ (∀ y0 y1, LeO (fastjson_validateObject.j3 k y0 y1) (fastjson_validateObject.j3 (k + 1) y0 y1)) ∧ (∀ y0, LeO (fastjson_validateArray.f k y0) (fastjson_validateArray.f (k + 1) y0)) ∧ (∀ y0, LeO (fastjson_validateArray.l0 k y0) (fastjson_validateArray.l0 (k + 1) y0)) ∧ (∀ y0, LeO (fastjson_validateValue.f k y0) (fastjson_validateValue.f (k + 1) y0)) ∧ (∀ y0 y1 y2 y3, LeO (fastjson_validateValue.l0 k y0 y1 y2 y3) (fastjson_validateValue.l0 (k + 1) y0 y1 y2 y3))
  | 0 => ⟨fun _ r h => by simp [fastjson_validateObject.f] at h, fun _ r h => by simp [fastjson_validateObject.l0] at h, fun _ _ r h => by simp [fastjson_validateObject.j1] at h, fun _ _ _ _ r h => by simp [fastjson_validateObject.l1] at h, fun _ _ r h => by simp [fastjson_validateObject.j3] at h, fun _ r h => by simp [fastjson_validateArray.f] at h, fun _ r h => by simp [fastjson_validateArray.l0] at h, fun _ r h => by simp [fastjson_validateValue.f] at h, fun _ _ _ _ r h => by simp [fastjson_validateValue.l0] at h⟩
  | k + 1 => by
    obtain ⟨ih0, ih1, ih2, ih3, ih4, ih5, ih6, ih7, ih8⟩ := grp_fastjson_validateObject.mono_l k
    refine ⟨?_, ?_, ?_, ?_, ?_, ?_, ?_, ?_, ?_⟩
    · intro y0
      unfold fastjson_validateObject.f
      repeat' first
      | (with_reducible exact ih0 _)
      | (with_reducible exact ih1 _)
      | (with_reducible exact ih2 _ _)
      | (with_reducible exact ih3 _ _ _ _)
      | (with_reducible exact ih4 _ _)
      | (with_reducible exact ih5 _)
      | (with_reducible exact ih6 _)
      | (with_reducible exact ih7 _)
      | (with_reducible exact ih8 _ _ _ _)
      | (with_reducible exact fastjson_skipWS.mono _ _)
      | (with_reducible exact fastjson_validateKey.mono _ _)
      | (with_reducible exact fastjson_validateNumber.mono _ _)
      | (with_reducible exact fastjson_validateString.mono _ _)
      | (with_reducible exact LeO.refl _)
      | (with_reducible exact LeO.none _)
      | (with_reducible refine LeO.ite ?_ ?_)
      | (with_reducible refine LeO.bind ?_ (fun _ => ?_))
      | exact ih0 _
      | exact ih1 _
      | exact ih2 _ _
      | exact ih3 _ _ _ _
      | exact ih4 _ _
      | exact ih5 _
      | exact ih6 _
      | exact ih7 _
      | exact ih8 _ _ _ _
      | exact fastjson_skipWS.mono _ _
      | exact fastjson_validateKey.mono _ _
      | exact fastjson_validateNumber.mono _ _
      | exact fastjson_validateString.mono _ _
      | exact LeO.none _
      | refine LeO.ite ?_ ?_
      | refine LeO.bind ?_ (fun _ => ?_)
    · intro y0
      unfold fastjson_validateObject.l0
      repeat' first
      | (with_reducible exact ih0 _)
      | (with_reducible exact ih1 _)
      | (with_reducible exact ih2 _ _)
      | (with_reducible exact ih3 _ _ _ _)
      | (with_reducible exact ih4 _ _)
      | (with_reducible exact ih5 _)
      | (with_reducible exact ih6 _)
      | (with_reducible exact ih7 _)
      | (with_reducible exact ih8 _ _ _ _)
      | (with_reducible exact fastjson_skipWS.mono _ _)
      | (with_reducible exact fastjson_validateKey.mono _ _)
      | (with_reducible exact fastjson_validateNumber.mono _ _)
      | (with_reducible exact fastjson_validateString.mono _ _)
      | (with_reducible exact LeO.refl _)
      | (with_reducible exact LeO.none _)
      | (with_reducible refine LeO.ite ?_ ?_)
      | (with_reducible refine LeO.bind ?_ (fun _ => ?_))
      | exact ih0 _
      | exact ih1 _
      | exact ih2 _ _
      | exact ih3 _ _ _ _
      | exact ih4 _ _
      | exact ih5 _
      | exact ih6 _
      | exact ih7 _
      | exact ih8 _ _ _ _
      | exact fastjson_skipWS.mono _ _
      | exact fastjson_validateKey.mono _ _
      | exact fastjson_validateNumber.mono _ _
      | exact fastjson_validateString.mono _ _
      | exact LeO.none _
      | refine LeO.ite ?_ ?_
      | refine LeO.bind ?_ (fun _ => ?_)
    · intro y0 y1
      unfold fastjson_validateObject.j1
      repeat' first
      | (with_reducible exact ih0 _)
      | (with_reducible exact ih1 _)
      | (with_reducible exact ih2 _ _)
      | (with_reducible exact ih3 _ _ _ _)
      | (with_reducible exact ih4 _ _)
      | (with_reducible exact ih5 _)
      | (with_reducible exact ih6 _)
      | (with_reducible exact ih7 _)
      | (with_reducible exact ih8 _ _ _ _)
      | (with_reducible exact fastjson_skipWS.mono _ _)
      | (with_reducible exact fastjson_validateKey.mono _ _)
      | (with_reducible exact fastjson_validateNumber.mono _ _)
      | (with_reducible exact fastjson_validateString.mono _ _)
      | (with_reducible exact LeO.refl _)
      | (with_reducible exact LeO.none _)
      | (with_reducible refine LeO.ite ?_ ?_)
      | (with_reducible refine LeO.bind ?_ (fun _ => ?_))
      | exact ih0 _
      | exact ih1 _
      | exact ih2 _ _
      | exact ih3 _ _ _ _
      | exact ih4 _ _
      | exact ih5 _
      | exact ih6 _
      | exact ih7 _
      | exact ih8 _ _ _ _
      | exact fastjson_skipWS.mono _ _
      | exact fastjson_validateKey.mono _ _
      | exact fastjson_validateNumber.mono _ _
      | exact fastjson_validateString.mono _ _
      | exact LeO.none _
      | refine LeO.ite ?_ ?_
      | refine LeO.bind ?_ (fun _ => ?_)
    · intro y0 y1 y2 y3
      unfold fastjson_validateObject.l1
      repeat' first
      | (with_reducible exact ih0 _)
      | (with_reducible exact ih1 _)
      | (with_reducible exact ih2 _ _)
      | (with_reducible exact ih3 _ _ _ _)
      | (with_reducible exact ih4 _ _)
      | (with_reducible exact ih5 _)
      | (with_reducible exact ih6 _)
      | (with_reducible exact ih7 _)
      | (with_reducible exact ih8 _ _ _ _)
      | (with_reducible exact fastjson_skipWS.mono _ _)
      | (with_reducible exact fastjson_validateKey.mono _ _)
      | (with_reducible exact fastjson_validateNumber.mono _ _)
      | (with_reducible exact fastjson_validateString.mono _ _)
      | (with_reducible exact LeO.refl _)
      | (with_reducible exact LeO.none _)
      | (with_reducible refine LeO.ite ?_ ?_)
      | (with_reducible refine LeO.bind ?_ (fun _ => ?_))
      | exact ih0 _
      | exact ih1 _
      | exact ih2 _ _
      | exact ih3 _ _ _ _
      | exact ih4 _ _
      | exact ih5 _
      | exact ih6 _
      | exact ih7 _
      | exact ih8 _ _ _ _
      | exact fastjson_skipWS.mono _ _
      | exact fastjson_validateKey.mono _ _
      | exact fastjson_validateNumber.mono _ _
      | exact fastjson_validateString.mono _ _
      | exact LeO.none _
      | refine LeO.ite ?_ ?_
      | refine LeO.bind ?_ (fun _ => ?_)
    · intro y0 y1
      unfold fastjson_validateObject.j3
      repeat' first
      | (with_reducible exact ih0 _)
      | (with_reducible exact ih1 _)
      | (with_reducible exact ih2 _ _)
      | (with_reducible exact ih3 _ _ _ _)
      | (with_reducible exact ih4 _ _)
      | (with_reducible exact ih5 _)
      | (with_reducible exact ih6 _)
      | (with_reducible exact ih7 _)
      | (with_reducible exact ih8 _ _ _ _)
      | (with_reducible exact fastjson_skipWS.mono _ _)
      | (with_reducible exact fastjson_validateKey.mono _ _)
      | (with_reducible exact fastjson_validateNumber.mono _ _)
      | (with_reducible exact fastjson_validateString.mono _ _)
      | (with_reducible exact LeO.refl _)
      | (with_reducible exact LeO.none _)
      | (with_reducible refine LeO.ite ?_ ?_)
      | (with_reducible refine LeO.bind ?_ (fun _ => ?_))
      | exact ih0 _
      | exact ih1 _
      | exact ih2 _ _
      | exact ih3 _ _ _ _
      | exact ih4 _ _
      | exact ih5 _
      | exact ih6 _
      | exact ih7 _
      | exact ih8 _ _ _ _
      | exact fastjson_skipWS.mono _ _
      | exact fastjson_validateKey.mono _ _
      | exact fastjson_validateNumber.mono _ _
      | exact fastjson_validateString.mono _ _
      | exact LeO.none _
      | refine LeO.ite ?_ ?_
      | refine LeO.bind ?_ (fun _ => ?_)
    · intro y0
      unfold fastjson_validateArray.f
      repeat' first
      | (with_reducible exact ih0 _)
      | (with_reducible exact ih1 _)
      | (with_reducible exact ih2 _ _)
      | (with_reducible exact ih3 _ _ _ _)
      | (with_reducible exact ih4 _ _)
      | (with_reducible exact ih5 _)
      | (with_reducible exact ih6 _)
      | (with_reducible exact ih7 _)
      | (with_reducible exact ih8 _ _ _ _)
      | (with_reducible exact fastjson_skipWS.mono _ _)
      | (with_reducible exact fastjson_validateKey.mono _ _)
      | (with_reducible exact fastjson_validateNumber.mono _ _)
      | (with_reducible exact fastjson_validateString.mono _ _)
      | (with_reducible exact LeO.refl _)
      | (with_reducible exact LeO.none _)
      | (with_reducible refine LeO.ite ?_ ?_)
      | (with_reducible refine LeO.bind ?_ (fun _ => ?_))
      | exact ih0 _
      | exact ih1 _
      | exact ih2 _ _
      | exact ih3 _ _ _ _
      | exact ih4 _ _
      | exact ih5 _
      | exact ih6 _
      | exact ih7 _
      | exact ih8 _ _ _ _
      | exact fastjson_skipWS.mono _ _
      | exact fastjson_validateKey.mono _ _
      | exact fastjson_validateNumber.mono _ _
      | exact fastjson_validateString.mono _ _
      | exact LeO.none _
      | refine LeO.ite ?_ ?_
      | refine LeO.bind ?_ (fun _ => ?_)
    · intro y0
      unfold fastjson_validateArray.l0
      repeat' first
      | (with_reducible exact ih0 _)
      | (with_reducible exact ih1 _)
      | (with_reducible exact ih2 _ _)
      | (with_reducible exact ih3 _ _ _ _)
      | (with_reducible exact ih4 _ _)
      | (with_reducible exact ih5 _)
      | (with_reducible exact ih6 _)
      | (with_reducible exact ih7 _)
      | (with_reducible exact ih8 _ _ _ _)
      | (with_reducible exact fastjson_skipWS.mono _ _)
      | (with_reducible exact fastjson_validateKey.mono _ _)
      | (with_reducible exact fastjson_validateNumber.mono _ _)
      | (with_reducible exact fastjson_validateString.mono _ _)
      | (with_reducible exact LeO.refl _)
      | (with_reducible exact LeO.none _)
      | (with_reducible refine LeO.ite ?_ ?_)
      | (with_reducible refine LeO.bind ?_ (fun _ => ?_))
      | exact ih0 _
      | exact ih1 _
      | exact ih2 _ _
      | exact ih3 _ _ _ _
      | exact ih4 _ _
      | exact ih5 _
      | exact ih6 _
      | exact ih7 _
      | exact ih8 _ _ _ _
      | exact fastjson_skipWS.mono _ _
      | exact fastjson_validateKey.mono _ _
      | exact fastjson_validateNumber.mono _ _
      | exact fastjson_validateString.mono _ _
      | exact LeO.none _
      | refine LeO.ite ?_ ?_
      | refine LeO.bind ?_ (fun _ => ?_)
    · intro y0
      unfold fastjson_validateValue.f
      repeat' first
      | (with_reducible exact ih0 _)
      | (with_reducible exact ih1 _)
      | (with_reducible exact ih2 _ _)
      | (with_reducible exact ih3 _ _ _ _)
      | (with_reducible exact ih4 _ _)
      | (with_reducible exact ih5 _)
      | (with_reducible exact ih6 _)
      | (with_reducible exact ih7 _)
      | (with_reducible exact ih8 _ _ _ _)
      | (with_reducible exact fastjson_skipWS.mono _ _)
      | (with_reducible exact fastjson_validateKey.mono _ _)
      | (with_reducible exact fastjson_validateNumber.mono _ _)
      | (with_reducible exact fastjson_validateString.mono _ _)
      | (with_reducible exact LeO.refl _)
      | (with_reducible exact LeO.none _)
      | (with_reducible refine LeO.ite ?_ ?_)
      | (with_reducible refine LeO.bind ?_ (fun _ => ?_))
      | exact ih0 _
      | exact ih1 _
      | exact ih2 _ _
      | exact ih3 _ _ _ _
      | exact ih4 _ _
      | exact ih5 _
      | exact ih6 _
      | exact ih7 _
      | exact ih8 _ _ _ _
      | exact fastjson_skipWS.mono _ _
      | exact fastjson_validateKey.mono _ _
      | exact fastjson_validateNumber.mono _ _
      | exact fastjson_validateString.mono _ _
      | exact LeO.none _
      | refine LeO.ite ?_ ?_
      | refine LeO.bind ?_ (fun _ => ?_)
    · intro y0 y1 y2 y3
      unfold fastjson_validateValue.l0
      repeat' first
      | (with_reducible exact ih0 _)
      | (with_reducible exact ih1 _)
      | (with_reducible exact ih2 _ _)
      | (with_reducible exact ih3 _ _ _ _)
      | (with_reducible exact ih4 _ _)
      | (with_reducible exact ih5 _)
      | (with_reducible exact ih6 _)
      | (with_reducible exact ih7 _)
      | (with_reducible exact ih8 _ _ _ _)
      | (with_reducible exact fastjson_skipWS.mono _ _)
      | (with_reducible exact fastjson_validateKey.mono _ _)
      | (with_reducible exact fastjson_validateNumber.mono _ _)
      | (with_reducible exact fastjson_validateString.mono _ _)
      | (with_reducible exact LeO.refl _)
      | (with_reducible exact LeO.none _)
      | (with_reducible refine LeO.ite ?_ ?_)
      | (with_reducible refine LeO.bind ?_ (fun _ => ?_))
      | exact ih0 _
      | exact ih1 _
      | exact ih2 _ _
      | exact ih3 _ _ _ _
      | exact ih4 _ _
      | exact ih5 _
      | exact ih6 _
      | exact ih7 _
      | exact ih8 _ _ _ _
      | exact fastjson_skipWS.mono _ _
      | exact fastjson_validateKey.mono _ _
      | exact fastjson_validateNumber.mono _ _
      | exact fastjson_validateString.mono _ _
      | exact LeO.none _
      | refine LeO.ite ?_ ?_
      | refine LeO.bind ?_ (fun _ => ?_)
theorem fastjson_validateObject.mono : ∀ a0 k, LeO (fastjson_validateObject.f k a0) (fastjson_validateObject.f (k + 1) a0) := by
  intro a0 k
  obtain ⟨ih0, ih1, ih2, ih3, ih4, ih5, ih6, ih7, ih8⟩ := grp_fastjson_validateObject.mono_l k
  exact ih0 a0
theorem fastjson_validateArray.mono : ∀ a0 k, LeO (fastjson_validateArray.f k a0) (fastjson_validateArray.f (k + 1) a0) := by
  intro a0 k
  obtain ⟨ih0, ih1, ih2, ih3, ih4, ih5, ih6, ih7, ih8⟩ := grp_fastjson_validateObject.mono_l k
  exact ih5 a0
theorem fastjson_validateValue.mono : ∀ a0 k, LeO (fastjson_validateValue.f k a0) (fastjson_validateValue.f (k + 1) a0) := by
  intro a0 k
  obtain ⟨ih0, ih1, ih2, ih3, ih4, ih5, ih6, ih7, ih8⟩ := grp_fastjson_validateObject.mono_l k
  exact ih7 a0
abbrev fastjson_validateObject.At (k : Nat) : Prop := ∀ (a0 : ByteArray) (r1 : ByteArray) (r2 : Option Int) (w : World) (hL : Laid w) (h : fastjson_validateObject.f k a0 = some (r1, r2)),
    Calls Tryd.prog 66 #[.string a0] w fun e w' => ∃ x1_ : TypeId × Value, e = .returned (.tuple #[.string r1, errX x1_ r2]) ∧ Below w.heap.size w w'
abbrev fastjson_validateArray.At (k : Nat) : Prop := ∀ (a0 : ByteArray) (r1 : ByteArray) (r2 : Option Int) (w : World) (hL : Laid w) (h : fastjson_validateArray.f k a0 = some (r1, r2)),
    Calls Tryd.prog 110 #[.string a0] w fun e w' => ∃ x1_ : TypeId × Value, e = .returned (.tuple #[.string r1, errX x1_ r2]) ∧ Below w.heap.size w w'
abbrev fastjson_validateValue.At (k : Nat) : Prop := ∀ (a0 : ByteArray) (r1 : ByteArray) (r2 : Option Int) (w : World) (hL : Laid w) (h : fastjson_validateValue.f k a0 = some (r1, r2)),
    Calls Tryd.prog 92 #[.string a0] w fun e w' => ∃ x1_ : TypeId × Value, e = .returned (.tuple #[.string r1, errX x1_ r2]) ∧ Below w.heap.size w w'

end Go.Proofs.YtfmllmlloekojaaDoor.PFnFjCheckMembers
