-- Written for this claim by this session's own program (wip/xprint).
import Derived.Test.YtkhgbacbnkgafaaGreatDoorMlA
import Derived.Test.YtkhgbacbnkgafaaGreatDoorProg
import Derived.Below
import Derived.Deep.Draws
import Derived.Deep.AppendLies
import Derived.Maps.AppendAt
import Derived.OwnWalk
import Derived.Laws.BytesArg
import Derived.Laws.MakeOwn
import Derived.Laws.OwnMore
import Derived.Deep.OwnRows
import Derived.Tactics
import Derived.Lib.ConvBytes
import Derived.Laws.Slices
import Derived.WalkKit
import Derived.KernelRfl
import Derived.RowKit3
import Derived.Deep.LoopGhost
import Derived.Deep.QuietTactic
import Derived.BigQuiet
import Derived.WideLaws
import Derived.Deep.DeepCutAuto
import Derived.Deep.CutBlock
import Derived.Deep.RegionHeld3
import Derived.Laws.Rows
import Derived.Lib.AppendStr
import Derived.ArgAppend
import Derived.Laws.IdiomCopy
import Derived.OrdersHeld
import Derived.Laws.BitsLemmas
import Derived.RowKit
import Derived.Test.YtkhgbacbnkgafaaGreatDoorXLaidFnGjMatchesLike
import Derived.Test.YtkhgbacbnkgafaaGreatDoorUtf8L
import Derived.Test.YtkhgbacbnkgafaaGreatDoorXWords
import Derived.Test.YtkhgbacbnkgafaaGreatDoorWWords
import Derived.Test.YtkhgbacbnkgafaaGreatDoorWLast
import Derived.Test.YtkhgbacbnkgafaaGreatDoorWTab
import Derived.Test.YtkhgbacbnkgafaaGreatDoorWFour
import Derived.Test.YtkhgbacbnkgafaaGreatDoorWQPut
import Derived.Test.YtkhgbacbnkgafaaGreatDoorWApart
import Derived.Test.YtkhgbacbnkgafaaGreatDoorWArr
import Derived.Test.YtkhgbacbnkgafaaGreatDoorWZeros
import Derived.Test.YtkhgbacbnkgafaaGreatDoorWFoot
import Derived.Test.YtkhgbacbnkgafaaGreatDoorWKept
import Derived.Test.YtkhgbacbnkgafaaGreatDoorWShare
import Derived.Test.YtkhgbacbnkgafaaGreatDoorWN
import Derived.Test.YtkhgbacbnkgafaaGreatDoorWFootNe
import Derived.Test.YtkhgbacbnkgafaaGreatDoorWAt
import Derived.Test.YtkhgbacbnkgafaaGreatDoorWEqStruct
import Derived.Test.YtkhgbacbnkgafaaGreatDoorWRepsOne
import Derived.Test.YtkhgbacbnkgafaaGreatDoorWInv
import Derived.Test.YtkhgbacbnkgafaaGreatDoorWInvWords
import Derived.Test.YtkhgbacbnkgafaaGreatDoorWGuard
import Derived.Test.YtkhgbacbnkgafaaGreatDoorWNEv
import Derived.Test.YtkhgbacbnkgafaaGreatDoorWMore
namespace Go.Proofs.YtkhgbacbnkgafaaGreatDoor.PFnGjMatchesLike
open Go.RowKit Go.Proofs.YtkhgbacbnkgafaaGreatDoorW.PrintWords Go.Proofs.YtkhgbacbnkgafaaGreatDoorW.PrintLast Go.Proofs.YtkhgbacbnkgafaaGreatDoorW.PrintMore
attribute [local go_sem] max2_int min2_int max_two min_two max_three min_three max_four min_four   -- for this text's walks alone
set_option linter.unusedVariables false
set_option linter.unusedSimpArgs false

/-! ### match_tolower: function 47 -/
def match_tolower.f (a0 : Int) : Option (Int) := if a0 ≥ 65 then (if a0 ≤ 90 then (some (wrap32 (a0 + 32))) else (some a0)) else (some a0)
set_option maxHeartbeats 8000000 in
set_option maxRecDepth 100000 in
theorem match_tolower.calls (a0 : Int) (r : Int) (w : World) (h : match_tolower.f a0 = some r) :
    Calls Tryz.prog 47 #[.int .i32 a0] w fun e w' => e = .returned (.int .i32 r) ∧ Drawn0 w w' := by
  have H : (if a0 ≥ 65 then (if a0 ≤ 90 then (some (wrap32 (a0 + 32))) else (some a0)) else (some a0)) = some r := h
  clear h
  by_cases c2 : a0 ≥ 65
  · rw [if_pos c2] at H
    have c2b0 : decide (65 ≤ a0) = true := decide_eq_true c2
    clear c2
    by_cases c3 : a0 ≤ 90
    · rw [if_pos c3] at H
      have c3b0 : decide (a0 ≤ 90) = true := decide_eq_true c3
      clear c3
      obtain rfl := Option.some.inj H
      go_enter Tryz.func47, Tryz.ntmps47
      go_wp2
      go_ret
      exact ⟨by first | rfl | (simp; done) | (simp [*]; done), by repeat (first | exact Drawn0.refl _ | apply Drawn0.step)⟩
    · rw [if_neg c3] at H
      have c3b0 : decide (a0 ≤ 90) = false := decide_eq_false c3
      clear c3
      obtain rfl := Option.some.inj H
      go_enter Tryz.func47, Tryz.ntmps47
      go_wp2
      go_ret
      exact ⟨by first | rfl | (simp; done) | (simp [*]; done), by repeat (first | exact Drawn0.refl _ | apply Drawn0.step)⟩
  · rw [if_neg c2] at H
    have c2b0 : decide (65 ≤ a0) = false := decide_eq_false c2
    clear c2
    obtain rfl := Option.some.inj H
    go_enter Tryz.func47, Tryz.ntmps47
    go_wp2
    go_ret
    exact ⟨by first | rfl | (simp; done) | (simp [*]; done), by repeat (first | exact Drawn0.refl _ | apply Drawn0.step)⟩


/-! ### match_matchTrimSuffix: function 46 -/
mutual
def match_matchTrimSuffix.l0 : Nat → ByteArray → ByteArray → Bool → Bool → Option (ByteArray × ByteArray × Bool)
  | 0, _, _, _, _ => none
  | k + 1, x0, x1, x2, x9 => if (x0.size : Int) > 0 then (match_matchTrimSuffix.j1 k x0 x1 x2 x9 (decide ((x1.size : Int) > 1))) else (match_matchTrimSuffix.j1 k x0 x1 x2 x9 false)
def match_matchTrimSuffix.j1 : Nat → ByteArray → ByteArray → Bool → Bool → Bool → Option (ByteArray × ByteArray × Bool)
  | 0, _, _, _, _, _ => none
  | k + 1, x0, x1, x2, x9, x23 => if x23 = true then ((utf8_DecodeLastRuneInString.f x1).bind fun bt231 => (match_matchTrimSuffix.l1 k x0 x1 x2 x9 bt231.1 bt231.2 false 0)) else (some (x0, x1, x9))
def match_matchTrimSuffix.j3 : Nat → ByteArray → ByteArray → Bool → Bool → Int → Int → Bool → Option (ByteArray × ByteArray × Bool)
  | 0, _, _, _, _, _, _, _ => none
  | k + 1, x0, x1, x2, x9, x10, x11, x12 => if x10 = 42 then (match_matchTrimSuffix.j4 k x0 x1 x2 x9 x10 x11 x12 (!x12)) else (match_matchTrimSuffix.j4 k x0 x1 x2 x9 x10 x11 x12 false)
def match_matchTrimSuffix.j4 : Nat → ByteArray → ByteArray → Bool → Bool → Int → Int → Bool → Bool → Option (ByteArray × ByteArray × Bool)
  | 0, _, _, _, _, _, _, _, _ => none
  | k + 1, x0, x1, x2, x9, x10, x11, x12, x51 => if x51 = true then (some (x0, x1, true)) else ((utf8_DecodeLastRuneInString.f x0).bind fun bt233 => (if x2 = true then ((match_tolower.f x10).bind fun t235 => ((match_tolower.f bt233.1).bind fun t236 => (if t235 = 63 then (if x12 = true then (if t235 = t236 then (if 0 ≤ (wrap64 ((x0.size : Int) - bt233.2)) then (if (wrap64 ((x0.size : Int) - bt233.2)) ≤ (x0.size : Int) then (if 0 ≤ (wrap64 ((x1.size : Int) - x11)) then (if (wrap64 ((x1.size : Int) - x11)) ≤ (x1.size : Int) then (match_matchTrimSuffix.l0 k (x0.extract 0 ((wrap64 ((x0.size : Int) - bt233.2)) : Int).toNat) (x1.extract 0 ((wrap64 ((x1.size : Int) - x11)) : Int).toNat) x2 x9) else (none)) else (none)) else (none)) else (none)) else (some (x0, x1, false))) else (if 0 ≤ (wrap64 ((x0.size : Int) - bt233.2)) then (if (wrap64 ((x0.size : Int) - bt233.2)) ≤ (x0.size : Int) then (if 0 ≤ (wrap64 ((x1.size : Int) - x11)) then (if (wrap64 ((x1.size : Int) - x11)) ≤ (x1.size : Int) then (match_matchTrimSuffix.l0 k (x0.extract 0 ((wrap64 ((x0.size : Int) - bt233.2)) : Int).toNat) (x1.extract 0 ((wrap64 ((x1.size : Int) - x11)) : Int).toNat) x2 x9) else (none)) else (none)) else (none)) else (none))) else (if t235 = t236 then (if 0 ≤ (wrap64 ((x0.size : Int) - bt233.2)) then (if (wrap64 ((x0.size : Int) - bt233.2)) ≤ (x0.size : Int) then (if 0 ≤ (wrap64 ((x1.size : Int) - x11)) then (if (wrap64 ((x1.size : Int) - x11)) ≤ (x1.size : Int) then (match_matchTrimSuffix.l0 k (x0.extract 0 ((wrap64 ((x0.size : Int) - bt233.2)) : Int).toNat) (x1.extract 0 ((wrap64 ((x1.size : Int) - x11)) : Int).toNat) x2 x9) else (none)) else (none)) else (none)) else (none)) else (some (x0, x1, false)))))) else (if x10 = 63 then (if x12 = true then (if x10 = bt233.1 then (if 0 ≤ (wrap64 ((x0.size : Int) - bt233.2)) then (if (wrap64 ((x0.size : Int) - bt233.2)) ≤ (x0.size : Int) then (if 0 ≤ (wrap64 ((x1.size : Int) - x11)) then (if (wrap64 ((x1.size : Int) - x11)) ≤ (x1.size : Int) then (match_matchTrimSuffix.l0 k (x0.extract 0 ((wrap64 ((x0.size : Int) - bt233.2)) : Int).toNat) (x1.extract 0 ((wrap64 ((x1.size : Int) - x11)) : Int).toNat) x2 x9) else (none)) else (none)) else (none)) else (none)) else (some (x0, x1, false))) else (if 0 ≤ (wrap64 ((x0.size : Int) - bt233.2)) then (if (wrap64 ((x0.size : Int) - bt233.2)) ≤ (x0.size : Int) then (if 0 ≤ (wrap64 ((x1.size : Int) - x11)) then (if (wrap64 ((x1.size : Int) - x11)) ≤ (x1.size : Int) then (match_matchTrimSuffix.l0 k (x0.extract 0 ((wrap64 ((x0.size : Int) - bt233.2)) : Int).toNat) (x1.extract 0 ((wrap64 ((x1.size : Int) - x11)) : Int).toNat) x2 x9) else (none)) else (none)) else (none)) else (none))) else (if x10 = bt233.1 then (if 0 ≤ (wrap64 ((x0.size : Int) - bt233.2)) then (if (wrap64 ((x0.size : Int) - bt233.2)) ≤ (x0.size : Int) then (if 0 ≤ (wrap64 ((x1.size : Int) - x11)) then (if (wrap64 ((x1.size : Int) - x11)) ≤ (x1.size : Int) then (match_matchTrimSuffix.l0 k (x0.extract 0 ((wrap64 ((x0.size : Int) - bt233.2)) : Int).toNat) (x1.extract 0 ((wrap64 ((x1.size : Int) - x11)) : Int).toNat) x2 x9) else (none)) else (none)) else (none)) else (none)) else (some (x0, x1, false))))))
def match_matchTrimSuffix.l1 : Nat → ByteArray → ByteArray → Bool → Bool → Int → Int → Bool → Int → Option (ByteArray × ByteArray × Bool)
  | 0, _, _, _, _, _, _, _, _ => none
  | k + 1, x0, x1, x2, x9, x10, x11, x12, x13 => if 0 ≤ (wrap64 ((wrap64 ((wrap64 ((x1.size : Int) - x11)) - x13)) - 1)) then (if (wrap64 ((wrap64 ((wrap64 ((x1.size : Int) - x11)) - x13)) - 1)) < (x1.size : Int) then (if (bt x1 (wrap64 ((wrap64 ((wrap64 ((x1.size : Int) - x11)) - x13)) - 1))) = 92 then (match_matchTrimSuffix.l1 k x0 x1 x2 x9 x10 x11 x12 (wrap64 (x13 + 1))) else (if (Go.bits .and .i64 x13 1) = 1 then (match_matchTrimSuffix.j3 k x0 x1 x2 x9 x10 (wrap64 (x11 + 1)) true) else (match_matchTrimSuffix.j3 k x0 x1 x2 x9 x10 x11 x12))) else (none)) else (none)
end
def match_matchTrimSuffix.f (k : Nat) (a0 : ByteArray) (a1 : ByteArray) (a2 : Bool) : Option (ByteArray × ByteArray × Bool) := match_matchTrimSuffix.l0 k a0 a1 a2 true
theorem match_matchTrimSuffix.mono_l : ∀ k, (∀ y0 y1 y2 y3, LeO (match_matchTrimSuffix.l0 k y0 y1 y2 y3) (match_matchTrimSuffix.l0 (k + 1) y0 y1 y2 y3)) ∧ (∀ y0 y1 y2 y3 y4, LeO (match_matchTrimSuffix.j1 k y0 y1 y2 y3 y4) (match_matchTrimSuffix.j1 (k + 1) y0 y1 y2 y3 y4)) ∧ (∀ y0 y1 y2 y3 y4 y5 y6, LeO (match_matchTrimSuffix.j3 k y0 y1 y2 y3 y4 y5 y6) (match_matchTrimSuffix.j3 (k + 1) y0 y1 y2 y3 y4 y5 y6)) ∧ (∀ y0 y1 y2 y3 y4 y5 y6 y7, LeO (match_matchTrimSuffix.j4 k y0 y1 y2 y3 y4 y5 y6 y7) (match_matchTrimSuffix.j4 (k + 1) y0 y1 y2 y3 y4 y5 y6 y7)) ∧ (∀ y0 y1 y2 y3 y4 y5 y6 y7, LeO (match_matchTrimSuffix.l1 k y0 y1 y2 y3 y4 y5 y6 y7) (match_matchTrimSuffix.l1 (k + 1) y0 y1 y2 y3 y4 y5 y6 y7))
  | 0 => ⟨fun _ _ _ _ r h => by simp [match_matchTrimSuffix.l0] at h, fun _ _ _ _ _ r h => by simp [match_matchTrimSuffix.j1] at h, fun _ _ _ _ _ _ _ r h => by simp [match_matchTrimSuffix.j3] at h, fun _ _ _ _ _ _ _ _ r h => by simp [match_matchTrimSuffix.j4] at h, fun _ _ _ _ _ _ _ _ r h => by simp [match_matchTrimSuffix.l1] at h⟩
  | k + 1 => by
    obtain ⟨ih0, ih1, ih2, ih3, ih4⟩ := match_matchTrimSuffix.mono_l k
    refine ⟨?_, ?_, ?_, ?_, ?_⟩
    · intro y0 y1 y2 y3
      unfold match_matchTrimSuffix.l0
      repeat' first
      | (with_reducible exact ih0 _ _ _ _)
      | (with_reducible exact ih1 _ _ _ _ _)
      | (with_reducible exact ih2 _ _ _ _ _ _ _)
      | (with_reducible exact ih3 _ _ _ _ _ _ _ _)
      | (with_reducible exact ih4 _ _ _ _ _ _ _ _)
      | (with_reducible exact LeO.refl _)
      | (with_reducible exact LeO.none _)
      | (with_reducible refine LeO.ite ?_ ?_)
      | (with_reducible refine LeO.bind ?_ (fun _ => ?_))
      | exact ih0 _ _ _ _
      | exact ih1 _ _ _ _ _
      | exact ih2 _ _ _ _ _ _ _
      | exact ih3 _ _ _ _ _ _ _ _
      | exact ih4 _ _ _ _ _ _ _ _
      | exact LeO.none _
      | refine LeO.ite ?_ ?_
      | refine LeO.bind ?_ (fun _ => ?_)
    · intro y0 y1 y2 y3 y4
      unfold match_matchTrimSuffix.j1
      repeat' first
      | (with_reducible exact ih0 _ _ _ _)
      | (with_reducible exact ih1 _ _ _ _ _)
      | (with_reducible exact ih2 _ _ _ _ _ _ _)
      | (with_reducible exact ih3 _ _ _ _ _ _ _ _)
      | (with_reducible exact ih4 _ _ _ _ _ _ _ _)
      | (with_reducible exact LeO.refl _)
      | (with_reducible exact LeO.none _)
      | (with_reducible refine LeO.ite ?_ ?_)
      | (with_reducible refine LeO.bind ?_ (fun _ => ?_))
      | exact ih0 _ _ _ _
      | exact ih1 _ _ _ _ _
      | exact ih2 _ _ _ _ _ _ _
      | exact ih3 _ _ _ _ _ _ _ _
      | exact ih4 _ _ _ _ _ _ _ _
      | exact LeO.none _
      | refine LeO.ite ?_ ?_
      | refine LeO.bind ?_ (fun _ => ?_)
    · intro y0 y1 y2 y3 y4 y5 y6
      unfold match_matchTrimSuffix.j3
      repeat' first
      | (with_reducible exact ih0 _ _ _ _)
      | (with_reducible exact ih1 _ _ _ _ _)
      | (with_reducible exact ih2 _ _ _ _ _ _ _)
      | (with_reducible exact ih3 _ _ _ _ _ _ _ _)
      | (with_reducible exact ih4 _ _ _ _ _ _ _ _)
      | (with_reducible exact LeO.refl _)
      | (with_reducible exact LeO.none _)
      | (with_reducible refine LeO.ite ?_ ?_)
      | (with_reducible refine LeO.bind ?_ (fun _ => ?_))
      | exact ih0 _ _ _ _
      | exact ih1 _ _ _ _ _
      | exact ih2 _ _ _ _ _ _ _
      | exact ih3 _ _ _ _ _ _ _ _
      | exact ih4 _ _ _ _ _ _ _ _
      | exact LeO.none _
      | refine LeO.ite ?_ ?_
      | refine LeO.bind ?_ (fun _ => ?_)
    · intro y0 y1 y2 y3 y4 y5 y6 y7
      unfold match_matchTrimSuffix.j4
      repeat' first
      | (with_reducible exact ih0 _ _ _ _)
      | (with_reducible exact ih1 _ _ _ _ _)
      | (with_reducible exact ih2 _ _ _ _ _ _ _)
      | (with_reducible exact ih3 _ _ _ _ _ _ _ _)
      | (with_reducible exact ih4 _ _ _ _ _ _ _ _)
      | (with_reducible exact LeO.refl _)
      | (with_reducible exact LeO.none _)
      | (with_reducible refine LeO.ite ?_ ?_)
      | (with_reducible refine LeO.bind ?_ (fun _ => ?_))
      | exact ih0 _ _ _ _
      | exact ih1 _ _ _ _ _
      | exact ih2 _ _ _ _ _ _ _
      | exact ih3 _ _ _ _ _ _ _ _
      | exact ih4 _ _ _ _ _ _ _ _
      | exact LeO.none _
      | refine LeO.ite ?_ ?_
      | refine LeO.bind ?_ (fun _ => ?_)
    · intro y0 y1 y2 y3 y4 y5 y6 y7
      unfold match_matchTrimSuffix.l1
      repeat' first
      | (with_reducible exact ih0 _ _ _ _)
      | (with_reducible exact ih1 _ _ _ _ _)
      | (with_reducible exact ih2 _ _ _ _ _ _ _)
      | (with_reducible exact ih3 _ _ _ _ _ _ _ _)
      | (with_reducible exact ih4 _ _ _ _ _ _ _ _)
      | (with_reducible exact LeO.refl _)
      | (with_reducible exact LeO.none _)
      | (with_reducible refine LeO.ite ?_ ?_)
      | (with_reducible refine LeO.bind ?_ (fun _ => ?_))
      | exact ih0 _ _ _ _
      | exact ih1 _ _ _ _ _
      | exact ih2 _ _ _ _ _ _ _
      | exact ih3 _ _ _ _ _ _ _ _
      | exact ih4 _ _ _ _ _ _ _ _
      | exact LeO.none _
      | refine LeO.ite ?_ ?_
      | refine LeO.bind ?_ (fun _ => ?_)
theorem match_matchTrimSuffix.mono : ∀ a0 a1 a2 k, LeO (match_matchTrimSuffix.f k a0 a1 a2) (match_matchTrimSuffix.f (k + 1) a0 a1 a2) := by
  intro a0 a1 a2 k
  obtain ⟨ih0, ih1, ih2, ih3, ih4⟩ := match_matchTrimSuffix.mono_l k
  unfold match_matchTrimSuffix.f
  repeat' first
      | (with_reducible exact ih0 _ _ _ _)
      | (with_reducible exact ih1 _ _ _ _ _)
      | (with_reducible exact ih2 _ _ _ _ _ _ _)
      | (with_reducible exact ih3 _ _ _ _ _ _ _ _)
      | (with_reducible exact ih4 _ _ _ _ _ _ _ _)
      | (with_reducible exact LeO.refl _)
      | (with_reducible exact LeO.none _)
      | (with_reducible refine LeO.ite ?_ ?_)
      | (with_reducible refine LeO.bind ?_ (fun _ => ?_))
      | exact ih0 _ _ _ _
      | exact ih1 _ _ _ _ _
      | exact ih2 _ _ _ _ _ _ _
      | exact ih3 _ _ _ _ _ _ _ _
      | exact ih4 _ _ _ _ _ _ _ _
      | exact LeO.none _
      | refine LeO.ite ?_ ?_
      | refine LeO.bind ?_ (fun _ => ?_)
set_option maxHeartbeats 8000000 in
set_option maxRecDepth 100000 in
theorem match_matchTrimSuffix.calls (k : Nat) (a0 : ByteArray) (a1 : ByteArray) (a2 : Bool) (r1 : ByteArray) (r2 : ByteArray) (r3 : Bool) (w : World) (hL : Laid w) (h : match_matchTrimSuffix.f k a0 a1 a2 = some (r1, r2, r3)) :
    Calls Tryz.prog 46 #[.string a0, .string a1, .bool a2] w fun e w' => e = .returned (.tuple #[.string r1, .string r2, .bool r3]) ∧ Below w.heap.size w w' := by
  have HB := Aside0.mk (Below.refl w.heap.size w)
  have HLD := Aside0.mk hL
  clear hL
  have H : (match_matchTrimSuffix.l0 k a0 a1 a2 true) = some (r1, r2, r3) := h
  clear h
  have H' := Aside0.mk H
  clear H
  go_enter Tryz.func46, Tryz.ntmps46
  go_wp2
  (try simp only [Act.put, List.setIfInBounds_toArray, List.set_cons_zero, List.set_cons_succ])
  go_loopg [0, 1, 9] k (fun kq v0 v1 v9 w' => ∃ (x0_1 : ByteArray) (x1_1 : ByteArray) (x9_1 : Bool), v0 = .string x0_1 ∧ v1 = .string x1_1 ∧ v9 = .bool x9_1 ∧ Aside0 (match_matchTrimSuffix.l0 kq x0_1 x1_1 a2 x9_1 = some (r1, r2, r3)) ∧ Aside0 (kq ≤ k) ∧ Aside0 (Below w.heap.size w w'))
  case atStart => exact ⟨(a0), (a1), (true), (by first | rfl | (simp; done) | (simp [*]; done)), (by first | rfl | (simp; done) | (simp [*]; done)), (by first | rfl | (simp; done) | (simp [*]; done)), H', ⟨Nat.le_refl _⟩, ⟨by repeat (first | (with_reducible first | exact HB.out | apply below_alloc | apply pw_below_drewN | apply below_drew1) | exact HB.out)⟩⟩
  case round =>
    clear H'
    try clear p2
    obtain ⟨x0_1, x1_1, x9_1, rfl, rfl, rfl, HA, HK1, HB⟩ := hrel
    cases gk with
    | zero => exact absurd HA.out (by simp [match_matchTrimSuffix.l0])
    | succ k1 =>
      have H := HA.out
      clear HA
      simp only [match_matchTrimSuffix.l0] at H
      have HC4 := Aside0.mk H
      clear H
      go_upto_region 2 with (fail)
      go_cut [23] (fun v23 wc => ∃ (kq : Nat) (x23_3 : Bool), v23 = .bool x23_3 ∧ Aside0 (match_matchTrimSuffix.j1 kq x0_1 x1_1 a2 x9_1 x23_3 = some (r1, r2, r3)) ∧ Aside0 (kq ≤ k1) ∧ Aside0 (Below w.heap.size w wc))
      case first =>
        have H := HC4.out
        clear HC4
        by_cases c5 : (x0_1.size : Int) > 0
        · rw [if_pos c5] at H
          have c5b0 : decide (0 < (x0_1.size : Int)) = true := decide_eq_true c5
          have c5b1 : decide (0 < x0_1.size) = true := decide_eq_true (by omega)
          clear c5
          (first | rw [c5b0] | (simp only [i64_w, i32_w]; rw [c5b0]) | skip)
          have H' := Aside0.mk H
          clear H
          go_wp2
          (first | go_meet)
          case rel => exact ⟨_, (decide ((x1_1.size : Int) > 1)), (by first | rfl | (simp; done) | (simp [*]; done)), H', ⟨by have := HK1.out; first | omega | exact Nat.le_refl _⟩, ⟨by repeat (first | (with_reducible first | exact HB.out | apply below_alloc | apply pw_below_drewN | apply below_drew1) | exact HB.out)⟩⟩
        · rw [if_neg c5] at H
          have c5b0 : decide (0 < (x0_1.size : Int)) = false := decide_eq_false c5
          have c5b1 : decide (0 < x0_1.size) = false := decide_eq_false (by omega)
          clear c5
          (first | rw [c5b0] | (simp only [i64_w, i32_w]; rw [c5b0]) | skip)
          have H' := Aside0.mk H
          clear H
          go_wp2
          (first | go_meet)
          case rel => exact ⟨_, (false), (by first | rfl | (simp; done) | (simp [*]; done)), H', ⟨by have := HK1.out; first | omega | exact Nat.le_refl _⟩, ⟨by repeat (first | (with_reducible first | exact HB.out | apply below_alloc | apply pw_below_drewN | apply below_drew1) | exact HB.out)⟩⟩
      case rest =>
        clear HC4
        try clear p2
        try clear c4
        try clear c5
        try clear c5b0
        try clear c5b1
        try clear p2
        obtain ⟨kq, x23_3, rfl, HA, HJ3, HB⟩ := hcut
        cases kq with
        | zero => exact absurd HA.out (by simp [match_matchTrimSuffix.j1])
        | succ kj3 =>
          have H := HA.out
          clear HA
          simp only [match_matchTrimSuffix.j1] at H
          by_cases c6 : x23_3 = true
          · subst c6
            have H1 : ((utf8_DecodeLastRuneInString.f x1_1).bind fun bt231 => (match_matchTrimSuffix.l1 kj3 x0_1 x1_1 a2 x9_1 bt231.1 bt231.2 false 0)) = some (r1, r2, r3) := by rw [if_pos rfl] at H; exact H
            clear H
            have H := H1
            clear H1
            replace H := Option.bind_eq_some_iff.mp H
            obtain ⟨⟨t231, t232⟩, A70, H⟩ := H
            replace H : (match_matchTrimSuffix.l1 kj3 x0_1 x1_1 a2 x9_1 t231 t232 false 0) = some (r1, r2, r3) := H
            have A7 := Aside0.mk A70
            clear A70
            have HC8 := Aside0.mk H
            clear H
            go_upto_block 2 with (first | ((with_reducible refine gate_callee (f := 63) rfl ?_); refine goesL_ (some 26) rfl rfl Tryz.func63 (by kernel_rfl) rfl #[.string x1_1] rfl (by (try simp only [List.map_toArray, List.map_cons, List.map_nil]); first | done | rfl | (simp only [List.length_drop, List.length_take]; rfl)) ?_; (with_reducible refine (utf8_DecodeLastRuneInString.calls x1_1 t231 t232 _ ?side1 A7.out).mono ?_); (case side1 => exact Laid.below HLD.out (by repeat (first | (with_reducible first | exact HB.out | apply below_alloc | apply pw_below_drewN | apply below_drew1) | exact HB.out))); rintro e w9 ⟨rfl, hb⟩; refine ⟨_, rfl, ?_⟩; have n0_ := Aside0.mk (below_step (by repeat (first | (with_reducible first | exact HB.out | apply below_alloc | apply pw_below_drewN | apply below_drew1) | exact HB.out)) hb); clear HB; have HB := n0_; clear n0_; (try clear hb); (try clear hb2); (try clear hk); (try clear hi)))
            (try simp only [Act.put, List.setIfInBounds_toArray, List.set_cons_zero, List.set_cons_succ])
            go_cut [11, 12] (fun v11 v12 wc => ∃ (kq : Nat) (x11_7 : Int) (x12_7 : Bool), v11 = .int .i64 x11_7 ∧ v12 = .bool x12_7 ∧ Aside0 (match_matchTrimSuffix.j3 kq x0_1 x1_1 a2 x9_1 t231 x11_7 x12_7 = some (r1, r2, r3)) ∧ Aside0 (kq ≤ kj3) ∧ Aside0 (Below w.heap.size w wc))
            case first =>
              have H := HC8.out
              clear HC8
              have H' := Aside0.mk H
              clear H
              go_wp2
              (try simp only [Act.put, List.setIfInBounds_toArray, List.set_cons_zero, List.set_cons_succ])
              go_loopg [11, 12, 13] kj3 (fun kq v11 v12 v13 w' => ∃ (x11_3 : Int) (x12_3 : Bool) (x13_3 : Int), v11 = .int .i64 x11_3 ∧ v12 = .bool x12_3 ∧ v13 = .int .i64 x13_3 ∧ Aside0 (match_matchTrimSuffix.l1 kq x0_1 x1_1 a2 x9_1 t231 x11_3 x12_3 x13_3 = some (r1, r2, r3)) ∧ Aside0 (kq ≤ kj3) ∧ Aside0 (Below w.heap.size w w'))
              case atStart => exact ⟨(t232), (false), (0), (by first | rfl | (simp; done) | (simp [*]; done)), (by first | rfl | (simp; done) | (simp [*]; done)), (by first | rfl | (simp; done) | (simp [*]; done)), H', ⟨Nat.le_refl _⟩, ⟨by repeat (first | (with_reducible first | exact HB.out | apply below_alloc | apply pw_below_drewN | apply below_drew1) | exact HB.out)⟩⟩
              case round =>
                clear H'
                try clear p2
                try clear c4
                try clear c5
                try clear c5b0
                try clear c5b1
                try clear c6
                try clear p2
                obtain ⟨x11_3, x12_3, x13_3, rfl, rfl, rfl, HA, HK3, HB⟩ := hrel
                cases gk with
                | zero => exact absurd HA.out (by simp [match_matchTrimSuffix.l1])
                | succ k3 =>
                  have H := HA.out
                  clear HA
                  simp only [match_matchTrimSuffix.l1] at H
                  obtain ⟨ji10, hji10⟩ : ∃ j_ : Int, (wrap64 ((wrap64 ((wrap64 ((x1_1.size : Int) - x11_3)) - x13_3)) - 1)) = j_ := ⟨_, rfl⟩
                  replace H : (if 0 ≤ (ji10) then (if (ji10) < (x1_1.size : Int) then (if (bt x1_1 (ji10)) = 92 then (match_matchTrimSuffix.l1 k3 x0_1 x1_1 a2 x9_1 t231 x11_3 x12_3 (wrap64 (x13_3 + 1))) else (if (Go.bits .and .i64 x13_3 1) = 1 then (match_matchTrimSuffix.j3 k3 x0_1 x1_1 a2 x9_1 t231 (wrap64 (x11_3 + 1)) true) else (match_matchTrimSuffix.j3 k3 x0_1 x1_1 a2 x9_1 t231 x11_3 x12_3))) else (none)) else (none)) = some (r1, r2, r3) := by first | (rw [hji10] at H; exact H) | (simp only [hji10] at H ⊢; exact H)
                  have hji10w : (IntKind.i64.wrap ((wrap64 ((wrap64 ((x1_1.size : Int) - x11_3)) - x13_3)) - 1)) = ji10 := (i64_w _).trans hji10
                  by_cases c11 : 0 ≤ (ji10)
                  · rw [if_pos c11] at H
                    have c11b0 : decide (0 ≤ (ji10)) = true := decide_eq_true c11
                    clear c11
                    (first | rw [c11b0] | (simp only [i64_w, i32_w]; rw [c11b0]) | skip)
                    by_cases c12 : (ji10) < (x1_1.size : Int)
                    · rw [if_pos c12] at H
                      have c12b0 : decide ((ji10) < (x1_1.size : Int)) = true := decide_eq_true c12
                      clear c12
                      by_cases c14 : (bt x1_1 (ji10)) = 92
                      · rw [if_pos c14] at H
                        have c14b0 : ((bt x1_1 (ji10)) == 92) = true := beq_iff_eq.mpr c14
                        have c14b1 : ((bt x1_1 (ji10)) != 92) = false := bne_eq_false_iff_eq.mpr c14
                        clear c14
                        have H' := Aside0.mk H
                        clear H
                        have p13 : 0 ≤ ((ji10) : Int) := of_decide_eq_true (by first | (with_reducible assumption) | assumption)
                        have q13 : (ji10) < (x1_1.size : Int) := of_decide_eq_true (by first | (with_reducible assumption) | assumption)
                        have hx13 := bt_at x1_1 (ji10)
                        replace p13 := eq_true p13
                        replace q13 := eq_true q13
                        go_wp2
                        go_roundg k3
                        case measure => have := HK1.out; have := HJ3.out; have := HK3.out; omega
                        case rel => exact ⟨(x11_3), (x12_3), (wrap64 (x13_3 + 1)), (by first | rfl | (simp; done) | (simp [*]; done)), (by first | rfl | (simp; done) | (simp [*]; done)), (by first | rfl | (simp; done) | (simp [*]; done)), H', ⟨by have := HK1.out; have := HJ3.out; have := HK3.out; omega⟩, ⟨by repeat (first | (with_reducible first | exact HB.out | apply below_alloc | apply pw_below_drewN | apply below_drew1) | exact HB.out)⟩⟩
                      · rw [if_neg c14] at H
                        have c14b0 : ((bt x1_1 (ji10)) == 92) = false := beq_eq_false_iff_ne.mpr c14
                        have c14b1 : ((bt x1_1 (ji10)) != 92) = true := bne_iff_ne.mpr c14
                        by_cases c15 : (Go.bits .and .i64 x13_3 1) = 1
                        · rw [if_pos c15] at H
                          have c15b0 : ((Go.bits .and .i64 x13_3 1) == 1) = true := beq_iff_eq.mpr c15
                          have c15b1 : ((Go.bits .and .i64 x13_3 1) != 1) = false := bne_eq_false_iff_eq.mpr c15
                          clear c15
                          have H' := Aside0.mk H
                          clear H
                          have p13 : 0 ≤ ((ji10) : Int) := of_decide_eq_true (by first | (with_reducible assumption) | assumption)
                          have q13 : (ji10) < (x1_1.size : Int) := of_decide_eq_true (by first | (with_reducible assumption) | assumption)
                          have hx13 := bt_at x1_1 (ji10)
                          replace p13 := eq_true p13
                          replace q13 := eq_true q13
                          go_wp2
                          (first | go_meet | (rw [← c14b0]; go_meet) | (rw [← c15b0]; go_meet))
                          case rel => exact ⟨_, (wrap64 (x11_3 + 1)), (true), (by first | rfl | (simp; done) | (simp [*]; done)), (by first | rfl | (simp; done) | (simp [*]; done)), H', ⟨by have := HK1.out; have := HJ3.out; have := HK3.out; first | omega | exact Nat.le_refl _⟩, ⟨by repeat (first | (with_reducible first | exact HB.out | apply below_alloc | apply pw_below_drewN | apply below_drew1) | exact HB.out)⟩⟩
                        · rw [if_neg c15] at H
                          have c15b0 : ((Go.bits .and .i64 x13_3 1) == 1) = false := beq_eq_false_iff_ne.mpr c15
                          have c15b1 : ((Go.bits .and .i64 x13_3 1) != 1) = true := bne_iff_ne.mpr c15
                          have H' := Aside0.mk H
                          clear H
                          have p13 : 0 ≤ ((ji10) : Int) := of_decide_eq_true (by first | (with_reducible assumption) | assumption)
                          have q13 : (ji10) < (x1_1.size : Int) := of_decide_eq_true (by first | (with_reducible assumption) | assumption)
                          have hx13 := bt_at x1_1 (ji10)
                          replace p13 := eq_true p13
                          replace q13 := eq_true q13
                          go_wp2
                          (first | go_meet | (rw [← c14b0]; go_meet) | (rw [← c15b0]; go_meet))
                          case rel => exact ⟨_, (x11_3), (x12_3), (by first | rfl | (simp; done) | (simp [*]; done)), (by first | rfl | (simp; done) | (simp [*]; done)), H', ⟨by have := HK1.out; have := HJ3.out; have := HK3.out; first | omega | exact Nat.le_refl _⟩, ⟨by repeat (first | (with_reducible first | exact HB.out | apply below_alloc | apply pw_below_drewN | apply below_drew1) | exact HB.out)⟩⟩
                    · rw [if_neg c12] at H
                      exact absurd H (by simp)
                  · rw [if_neg c11] at H
                    exact absurd H (by simp)
            case rest =>
              clear HC8
              try clear c1
              try clear p1
              try clear q1
              try clear hx1
              try clear p2
              try clear c4
              try clear c5
              try clear c5b0
              try clear c5b1
              try clear c6
              try clear p6
              try clear c11
              try clear c11b0
              try clear c12
              try clear c12b0
              try clear p13
              try clear q13
              try clear hx13
              try clear c14
              try clear c14b0
              try clear c14b1
              try clear c15
              try clear c15b0
              try clear c15b1
              try clear p13
              try clear p2
              try clear q13
              obtain ⟨kq, x11_7, x12_7, rfl, rfl, HA, HJ7, HB⟩ := hcut
              cases kq with
              | zero => exact absurd HA.out (by simp [match_matchTrimSuffix.j3])
              | succ kj7 =>
                have H := HA.out
                clear HA
                simp only [match_matchTrimSuffix.j3] at H
                have HC16 := Aside0.mk H
                clear H
                go_upto_region 11 with (fail)
                go_cut [51] (fun v51 wc => ∃ (kq : Nat) (x51_15 : Bool), v51 = .bool x51_15 ∧ Aside0 (match_matchTrimSuffix.j4 kq x0_1 x1_1 a2 x9_1 t231 x11_7 x12_7 x51_15 = some (r1, r2, r3)) ∧ Aside0 (kq ≤ kj7) ∧ Aside0 (Below w.heap.size w wc))
                case first =>
                  have H := HC16.out
                  clear HC16
                  by_cases c17 : t231 = 42
                  · rw [if_pos c17] at H
                    have c17b0 : (t231 == 42) = true := beq_iff_eq.mpr c17
                    have c17b1 : (t231 != 42) = false := bne_eq_false_iff_eq.mpr c17
                    clear c17
                    (first | rw [c17b0] | (simp only [i64_w, i32_w]; rw [c17b0]) | skip)
                    have H' := Aside0.mk H
                    clear H
                    go_wp2
                    (first | go_meet | (rw [← c17b0]; go_meet))
                    case rel => exact ⟨_, (!x12_7), (by first | rfl | (simp; done) | (simp [*]; done)), H', ⟨by have := HK1.out; have := HJ3.out; have := HJ7.out; first | omega | exact Nat.le_refl _⟩, ⟨by repeat (first | (with_reducible first | exact HB.out | apply below_alloc | apply pw_below_drewN | apply below_drew1) | exact HB.out)⟩⟩
                  · rw [if_neg c17] at H
                    have c17b0 : (t231 == 42) = false := beq_eq_false_iff_ne.mpr c17
                    have c17b1 : (t231 != 42) = true := bne_iff_ne.mpr c17
                    (first | rw [c17b0] | (simp only [i64_w, i32_w]; rw [c17b0]) | skip)
                    have H' := Aside0.mk H
                    clear H
                    go_wp2
                    (first | go_meet | (rw [← c17b0]; go_meet))
                    case rel => exact ⟨_, (false), (by first | rfl | (simp; done) | (simp [*]; done)), H', ⟨by have := HK1.out; have := HJ3.out; have := HJ7.out; first | omega | exact Nat.le_refl _⟩, ⟨by repeat (first | (with_reducible first | exact HB.out | apply below_alloc | apply pw_below_drewN | apply below_drew1) | exact HB.out)⟩⟩
                case rest =>
                  clear HC16
                  try clear c1
                  try clear p1
                  try clear q1
                  try clear hx1
                  try clear p2
                  try clear c4
                  try clear c5
                  try clear c5b0
                  try clear c5b1
                  try clear c6
                  try clear p6
                  try clear c11
                  try clear c11b0
                  try clear c12
                  try clear c12b0
                  try clear p13
                  try clear q13
                  try clear hx13
                  try clear c14
                  try clear c14b0
                  try clear c14b1
                  try clear c15
                  try clear c15b0
                  try clear c15b1
                  try clear c17
                  try clear c17b0
                  try clear c17b1
                  try clear p1
                  try clear p13
                  try clear p2
                  try clear p6
                  try clear q1
                  try clear q13
                  obtain ⟨kq, x51_15, rfl, HA, HJ15, HB⟩ := hcut
                  cases kq with
                  | zero => exact absurd HA.out (by simp [match_matchTrimSuffix.j4])
                  | succ kj15 =>
                    have H := HA.out
                    clear HA
                    simp only [match_matchTrimSuffix.j4] at H
                    by_cases c18 : x51_15 = true
                    · subst c18
                      have H1 : (some (x0_1, x1_1, true)) = some (r1, r2, r3) := by rw [if_pos rfl] at H; exact H
                      clear H
                      have H := H1
                      clear H1
                      simp only [Option.some.injEq, Prod.mk.injEq] at H
                      obtain ⟨rfl, rfl, rfl⟩ := H
                      go_wp2
                      go_ret3
                      exact ⟨by first | rfl | (simp [errW_none, errW_some] <;> rfl) | (simp [*, errW_none, errW_some] <;> rfl), by repeat (first | (with_reducible first | exact HB.out | apply below_alloc | apply pw_below_drewN | apply below_drew1) | exact HB.out)⟩
                    · replace c18 := Bool.eq_false_iff.mpr c18
                      subst c18
                      have H1 : ((utf8_DecodeLastRuneInString.f x0_1).bind fun bt233 => (if a2 = true then ((match_tolower.f t231).bind fun t235 => ((match_tolower.f bt233.1).bind fun t236 => (if t235 = 63 then (if x12_7 = true then (if t235 = t236 then (if 0 ≤ (wrap64 ((x0_1.size : Int) - bt233.2)) then (if (wrap64 ((x0_1.size : Int) - bt233.2)) ≤ (x0_1.size : Int) then (if 0 ≤ (wrap64 ((x1_1.size : Int) - x11_7)) then (if (wrap64 ((x1_1.size : Int) - x11_7)) ≤ (x1_1.size : Int) then (match_matchTrimSuffix.l0 kj15 (x0_1.extract 0 ((wrap64 ((x0_1.size : Int) - bt233.2)) : Int).toNat) (x1_1.extract 0 ((wrap64 ((x1_1.size : Int) - x11_7)) : Int).toNat) a2 x9_1) else (none)) else (none)) else (none)) else (none)) else (some (x0_1, x1_1, false))) else (if 0 ≤ (wrap64 ((x0_1.size : Int) - bt233.2)) then (if (wrap64 ((x0_1.size : Int) - bt233.2)) ≤ (x0_1.size : Int) then (if 0 ≤ (wrap64 ((x1_1.size : Int) - x11_7)) then (if (wrap64 ((x1_1.size : Int) - x11_7)) ≤ (x1_1.size : Int) then (match_matchTrimSuffix.l0 kj15 (x0_1.extract 0 ((wrap64 ((x0_1.size : Int) - bt233.2)) : Int).toNat) (x1_1.extract 0 ((wrap64 ((x1_1.size : Int) - x11_7)) : Int).toNat) a2 x9_1) else (none)) else (none)) else (none)) else (none))) else (if t235 = t236 then (if 0 ≤ (wrap64 ((x0_1.size : Int) - bt233.2)) then (if (wrap64 ((x0_1.size : Int) - bt233.2)) ≤ (x0_1.size : Int) then (if 0 ≤ (wrap64 ((x1_1.size : Int) - x11_7)) then (if (wrap64 ((x1_1.size : Int) - x11_7)) ≤ (x1_1.size : Int) then (match_matchTrimSuffix.l0 kj15 (x0_1.extract 0 ((wrap64 ((x0_1.size : Int) - bt233.2)) : Int).toNat) (x1_1.extract 0 ((wrap64 ((x1_1.size : Int) - x11_7)) : Int).toNat) a2 x9_1) else (none)) else (none)) else (none)) else (none)) else (some (x0_1, x1_1, false)))))) else (if t231 = 63 then (if x12_7 = true then (if t231 = bt233.1 then (if 0 ≤ (wrap64 ((x0_1.size : Int) - bt233.2)) then (if (wrap64 ((x0_1.size : Int) - bt233.2)) ≤ (x0_1.size : Int) then (if 0 ≤ (wrap64 ((x1_1.size : Int) - x11_7)) then (if (wrap64 ((x1_1.size : Int) - x11_7)) ≤ (x1_1.size : Int) then (match_matchTrimSuffix.l0 kj15 (x0_1.extract 0 ((wrap64 ((x0_1.size : Int) - bt233.2)) : Int).toNat) (x1_1.extract 0 ((wrap64 ((x1_1.size : Int) - x11_7)) : Int).toNat) a2 x9_1) else (none)) else (none)) else (none)) else (none)) else (some (x0_1, x1_1, false))) else (if 0 ≤ (wrap64 ((x0_1.size : Int) - bt233.2)) then (if (wrap64 ((x0_1.size : Int) - bt233.2)) ≤ (x0_1.size : Int) then (if 0 ≤ (wrap64 ((x1_1.size : Int) - x11_7)) then (if (wrap64 ((x1_1.size : Int) - x11_7)) ≤ (x1_1.size : Int) then (match_matchTrimSuffix.l0 kj15 (x0_1.extract 0 ((wrap64 ((x0_1.size : Int) - bt233.2)) : Int).toNat) (x1_1.extract 0 ((wrap64 ((x1_1.size : Int) - x11_7)) : Int).toNat) a2 x9_1) else (none)) else (none)) else (none)) else (none))) else (if t231 = bt233.1 then (if 0 ≤ (wrap64 ((x0_1.size : Int) - bt233.2)) then (if (wrap64 ((x0_1.size : Int) - bt233.2)) ≤ (x0_1.size : Int) then (if 0 ≤ (wrap64 ((x1_1.size : Int) - x11_7)) then (if (wrap64 ((x1_1.size : Int) - x11_7)) ≤ (x1_1.size : Int) then (match_matchTrimSuffix.l0 kj15 (x0_1.extract 0 ((wrap64 ((x0_1.size : Int) - bt233.2)) : Int).toNat) (x1_1.extract 0 ((wrap64 ((x1_1.size : Int) - x11_7)) : Int).toNat) a2 x9_1) else (none)) else (none)) else (none)) else (none)) else (some (x0_1, x1_1, false)))))) = some (r1, r2, r3) := by rw [if_neg (show ¬ (false = true) by decide)] at H; exact H
                      clear H
                      have H := H1
                      clear H1
                      replace H := Option.bind_eq_some_iff.mp H
                      obtain ⟨⟨t233, t234⟩, A190, H⟩ := H
                      replace H : (if a2 = true then ((match_tolower.f t231).bind fun t235 => ((match_tolower.f t233).bind fun t236 => (if t235 = 63 then (if x12_7 = true then (if t235 = t236 then (if 0 ≤ (wrap64 ((x0_1.size : Int) - t234)) then (if (wrap64 ((x0_1.size : Int) - t234)) ≤ (x0_1.size : Int) then (if 0 ≤ (wrap64 ((x1_1.size : Int) - x11_7)) then (if (wrap64 ((x1_1.size : Int) - x11_7)) ≤ (x1_1.size : Int) then (match_matchTrimSuffix.l0 kj15 (x0_1.extract 0 ((wrap64 ((x0_1.size : Int) - t234)) : Int).toNat) (x1_1.extract 0 ((wrap64 ((x1_1.size : Int) - x11_7)) : Int).toNat) a2 x9_1) else (none)) else (none)) else (none)) else (none)) else (some (x0_1, x1_1, false))) else (if 0 ≤ (wrap64 ((x0_1.size : Int) - t234)) then (if (wrap64 ((x0_1.size : Int) - t234)) ≤ (x0_1.size : Int) then (if 0 ≤ (wrap64 ((x1_1.size : Int) - x11_7)) then (if (wrap64 ((x1_1.size : Int) - x11_7)) ≤ (x1_1.size : Int) then (match_matchTrimSuffix.l0 kj15 (x0_1.extract 0 ((wrap64 ((x0_1.size : Int) - t234)) : Int).toNat) (x1_1.extract 0 ((wrap64 ((x1_1.size : Int) - x11_7)) : Int).toNat) a2 x9_1) else (none)) else (none)) else (none)) else (none))) else (if t235 = t236 then (if 0 ≤ (wrap64 ((x0_1.size : Int) - t234)) then (if (wrap64 ((x0_1.size : Int) - t234)) ≤ (x0_1.size : Int) then (if 0 ≤ (wrap64 ((x1_1.size : Int) - x11_7)) then (if (wrap64 ((x1_1.size : Int) - x11_7)) ≤ (x1_1.size : Int) then (match_matchTrimSuffix.l0 kj15 (x0_1.extract 0 ((wrap64 ((x0_1.size : Int) - t234)) : Int).toNat) (x1_1.extract 0 ((wrap64 ((x1_1.size : Int) - x11_7)) : Int).toNat) a2 x9_1) else (none)) else (none)) else (none)) else (none)) else (some (x0_1, x1_1, false)))))) else (if t231 = 63 then (if x12_7 = true then (if t231 = t233 then (if 0 ≤ (wrap64 ((x0_1.size : Int) - t234)) then (if (wrap64 ((x0_1.size : Int) - t234)) ≤ (x0_1.size : Int) then (if 0 ≤ (wrap64 ((x1_1.size : Int) - x11_7)) then (if (wrap64 ((x1_1.size : Int) - x11_7)) ≤ (x1_1.size : Int) then (match_matchTrimSuffix.l0 kj15 (x0_1.extract 0 ((wrap64 ((x0_1.size : Int) - t234)) : Int).toNat) (x1_1.extract 0 ((wrap64 ((x1_1.size : Int) - x11_7)) : Int).toNat) a2 x9_1) else (none)) else (none)) else (none)) else (none)) else (some (x0_1, x1_1, false))) else (if 0 ≤ (wrap64 ((x0_1.size : Int) - t234)) then (if (wrap64 ((x0_1.size : Int) - t234)) ≤ (x0_1.size : Int) then (if 0 ≤ (wrap64 ((x1_1.size : Int) - x11_7)) then (if (wrap64 ((x1_1.size : Int) - x11_7)) ≤ (x1_1.size : Int) then (match_matchTrimSuffix.l0 kj15 (x0_1.extract 0 ((wrap64 ((x0_1.size : Int) - t234)) : Int).toNat) (x1_1.extract 0 ((wrap64 ((x1_1.size : Int) - x11_7)) : Int).toNat) a2 x9_1) else (none)) else (none)) else (none)) else (none))) else (if t231 = t233 then (if 0 ≤ (wrap64 ((x0_1.size : Int) - t234)) then (if (wrap64 ((x0_1.size : Int) - t234)) ≤ (x0_1.size : Int) then (if 0 ≤ (wrap64 ((x1_1.size : Int) - x11_7)) then (if (wrap64 ((x1_1.size : Int) - x11_7)) ≤ (x1_1.size : Int) then (match_matchTrimSuffix.l0 kj15 (x0_1.extract 0 ((wrap64 ((x0_1.size : Int) - t234)) : Int).toNat) (x1_1.extract 0 ((wrap64 ((x1_1.size : Int) - x11_7)) : Int).toNat) a2 x9_1) else (none)) else (none)) else (none)) else (none)) else (some (x0_1, x1_1, false))))) = some (r1, r2, r3) := H
                      have A19 := Aside0.mk A190
                      clear A190
                      by_cases c20 : a2 = true
                      · subst c20
                        have H1 : ((match_tolower.f t231).bind fun t235 => ((match_tolower.f t233).bind fun t236 => (if t235 = 63 then (if x12_7 = true then (if t235 = t236 then (if 0 ≤ (wrap64 ((x0_1.size : Int) - t234)) then (if (wrap64 ((x0_1.size : Int) - t234)) ≤ (x0_1.size : Int) then (if 0 ≤ (wrap64 ((x1_1.size : Int) - x11_7)) then (if (wrap64 ((x1_1.size : Int) - x11_7)) ≤ (x1_1.size : Int) then (match_matchTrimSuffix.l0 kj15 (x0_1.extract 0 ((wrap64 ((x0_1.size : Int) - t234)) : Int).toNat) (x1_1.extract 0 ((wrap64 ((x1_1.size : Int) - x11_7)) : Int).toNat) true x9_1) else (none)) else (none)) else (none)) else (none)) else (some (x0_1, x1_1, false))) else (if 0 ≤ (wrap64 ((x0_1.size : Int) - t234)) then (if (wrap64 ((x0_1.size : Int) - t234)) ≤ (x0_1.size : Int) then (if 0 ≤ (wrap64 ((x1_1.size : Int) - x11_7)) then (if (wrap64 ((x1_1.size : Int) - x11_7)) ≤ (x1_1.size : Int) then (match_matchTrimSuffix.l0 kj15 (x0_1.extract 0 ((wrap64 ((x0_1.size : Int) - t234)) : Int).toNat) (x1_1.extract 0 ((wrap64 ((x1_1.size : Int) - x11_7)) : Int).toNat) true x9_1) else (none)) else (none)) else (none)) else (none))) else (if t235 = t236 then (if 0 ≤ (wrap64 ((x0_1.size : Int) - t234)) then (if (wrap64 ((x0_1.size : Int) - t234)) ≤ (x0_1.size : Int) then (if 0 ≤ (wrap64 ((x1_1.size : Int) - x11_7)) then (if (wrap64 ((x1_1.size : Int) - x11_7)) ≤ (x1_1.size : Int) then (match_matchTrimSuffix.l0 kj15 (x0_1.extract 0 ((wrap64 ((x0_1.size : Int) - t234)) : Int).toNat) (x1_1.extract 0 ((wrap64 ((x1_1.size : Int) - x11_7)) : Int).toNat) true x9_1) else (none)) else (none)) else (none)) else (none)) else (some (x0_1, x1_1, false)))))) = some (r1, r2, r3) := by rw [if_pos rfl] at H; exact H
                        clear H
                        have H := H1
                        clear H1
                        replace H := Option.bind_eq_some_iff.mp H
                        obtain ⟨t235, A210, H⟩ := H
                        replace H : ((match_tolower.f t233).bind fun t236 => (if t235 = 63 then (if x12_7 = true then (if t235 = t236 then (if 0 ≤ (wrap64 ((x0_1.size : Int) - t234)) then (if (wrap64 ((x0_1.size : Int) - t234)) ≤ (x0_1.size : Int) then (if 0 ≤ (wrap64 ((x1_1.size : Int) - x11_7)) then (if (wrap64 ((x1_1.size : Int) - x11_7)) ≤ (x1_1.size : Int) then (match_matchTrimSuffix.l0 kj15 (x0_1.extract 0 ((wrap64 ((x0_1.size : Int) - t234)) : Int).toNat) (x1_1.extract 0 ((wrap64 ((x1_1.size : Int) - x11_7)) : Int).toNat) true x9_1) else (none)) else (none)) else (none)) else (none)) else (some (x0_1, x1_1, false))) else (if 0 ≤ (wrap64 ((x0_1.size : Int) - t234)) then (if (wrap64 ((x0_1.size : Int) - t234)) ≤ (x0_1.size : Int) then (if 0 ≤ (wrap64 ((x1_1.size : Int) - x11_7)) then (if (wrap64 ((x1_1.size : Int) - x11_7)) ≤ (x1_1.size : Int) then (match_matchTrimSuffix.l0 kj15 (x0_1.extract 0 ((wrap64 ((x0_1.size : Int) - t234)) : Int).toNat) (x1_1.extract 0 ((wrap64 ((x1_1.size : Int) - x11_7)) : Int).toNat) true x9_1) else (none)) else (none)) else (none)) else (none))) else (if t235 = t236 then (if 0 ≤ (wrap64 ((x0_1.size : Int) - t234)) then (if (wrap64 ((x0_1.size : Int) - t234)) ≤ (x0_1.size : Int) then (if 0 ≤ (wrap64 ((x1_1.size : Int) - x11_7)) then (if (wrap64 ((x1_1.size : Int) - x11_7)) ≤ (x1_1.size : Int) then (match_matchTrimSuffix.l0 kj15 (x0_1.extract 0 ((wrap64 ((x0_1.size : Int) - t234)) : Int).toNat) (x1_1.extract 0 ((wrap64 ((x1_1.size : Int) - x11_7)) : Int).toNat) true x9_1) else (none)) else (none)) else (none)) else (none)) else (some (x0_1, x1_1, false))))) = some (r1, r2, r3) := H
                        have A21 := Aside0.mk A210
                        clear A210
                        replace H := Option.bind_eq_some_iff.mp H
                        obtain ⟨t236, A220, H⟩ := H
                        replace H : (if t235 = 63 then (if x12_7 = true then (if t235 = t236 then (if 0 ≤ (wrap64 ((x0_1.size : Int) - t234)) then (if (wrap64 ((x0_1.size : Int) - t234)) ≤ (x0_1.size : Int) then (if 0 ≤ (wrap64 ((x1_1.size : Int) - x11_7)) then (if (wrap64 ((x1_1.size : Int) - x11_7)) ≤ (x1_1.size : Int) then (match_matchTrimSuffix.l0 kj15 (x0_1.extract 0 ((wrap64 ((x0_1.size : Int) - t234)) : Int).toNat) (x1_1.extract 0 ((wrap64 ((x1_1.size : Int) - x11_7)) : Int).toNat) true x9_1) else (none)) else (none)) else (none)) else (none)) else (some (x0_1, x1_1, false))) else (if 0 ≤ (wrap64 ((x0_1.size : Int) - t234)) then (if (wrap64 ((x0_1.size : Int) - t234)) ≤ (x0_1.size : Int) then (if 0 ≤ (wrap64 ((x1_1.size : Int) - x11_7)) then (if (wrap64 ((x1_1.size : Int) - x11_7)) ≤ (x1_1.size : Int) then (match_matchTrimSuffix.l0 kj15 (x0_1.extract 0 ((wrap64 ((x0_1.size : Int) - t234)) : Int).toNat) (x1_1.extract 0 ((wrap64 ((x1_1.size : Int) - x11_7)) : Int).toNat) true x9_1) else (none)) else (none)) else (none)) else (none))) else (if t235 = t236 then (if 0 ≤ (wrap64 ((x0_1.size : Int) - t234)) then (if (wrap64 ((x0_1.size : Int) - t234)) ≤ (x0_1.size : Int) then (if 0 ≤ (wrap64 ((x1_1.size : Int) - x11_7)) then (if (wrap64 ((x1_1.size : Int) - x11_7)) ≤ (x1_1.size : Int) then (match_matchTrimSuffix.l0 kj15 (x0_1.extract 0 ((wrap64 ((x0_1.size : Int) - t234)) : Int).toNat) (x1_1.extract 0 ((wrap64 ((x1_1.size : Int) - x11_7)) : Int).toNat) true x9_1) else (none)) else (none)) else (none)) else (none)) else (some (x0_1, x1_1, false)))) = some (r1, r2, r3) := H
                        have A22 := Aside0.mk A220
                        clear A220
                        by_cases c23 : t235 = 63
                        · rw [if_pos c23] at H
                          have c23b0 : (t235 == 63) = true := beq_iff_eq.mpr c23
                          have c23b1 : (t235 != 63) = false := bne_eq_false_iff_eq.mpr c23
                          clear c23
                          by_cases c24 : x12_7 = true
                          · subst c24
                            have H1 : (if t235 = t236 then (if 0 ≤ (wrap64 ((x0_1.size : Int) - t234)) then (if (wrap64 ((x0_1.size : Int) - t234)) ≤ (x0_1.size : Int) then (if 0 ≤ (wrap64 ((x1_1.size : Int) - x11_7)) then (if (wrap64 ((x1_1.size : Int) - x11_7)) ≤ (x1_1.size : Int) then (match_matchTrimSuffix.l0 kj15 (x0_1.extract 0 ((wrap64 ((x0_1.size : Int) - t234)) : Int).toNat) (x1_1.extract 0 ((wrap64 ((x1_1.size : Int) - x11_7)) : Int).toNat) true x9_1) else (none)) else (none)) else (none)) else (none)) else (some (x0_1, x1_1, false))) = some (r1, r2, r3) := by rw [if_pos rfl] at H; exact H
                            clear H
                            have H := H1
                            clear H1
                            by_cases c25 : t235 = t236
                            · rw [if_pos c25] at H
                              have c25b0 : (t235 == t236) = true := beq_iff_eq.mpr c25
                              have c25b1 : (t235 != t236) = false := bne_eq_false_iff_eq.mpr c25
                              clear c25
                              obtain ⟨ji26, hji26⟩ : ∃ j_ : Int, (wrap64 ((x0_1.size : Int) - t234)) = j_ := ⟨_, rfl⟩
                              replace H : (if 0 ≤ (ji26) then (if (ji26) ≤ (x0_1.size : Int) then (if 0 ≤ (wrap64 ((x1_1.size : Int) - x11_7)) then (if (wrap64 ((x1_1.size : Int) - x11_7)) ≤ (x1_1.size : Int) then (match_matchTrimSuffix.l0 kj15 (x0_1.extract 0 ((ji26) : Int).toNat) (x1_1.extract 0 ((wrap64 ((x1_1.size : Int) - x11_7)) : Int).toNat) true x9_1) else (none)) else (none)) else (none)) else (none)) = some (r1, r2, r3) := by first | (rw [hji26] at H; exact H) | (simp only [hji26] at H ⊢; exact H)
                              (try rw [hji26] at A19)
                              (try rw [hji26] at A21)
                              (try rw [hji26] at A22)
                              have hji26w : (IntKind.i64.wrap ((x0_1.size : Int) - t234)) = ji26 := (i64_w _).trans hji26
                              by_cases c27 : 0 ≤ (ji26)
                              · rw [if_pos c27] at H
                                have c27b0 := eq_true c27
                                have c27b1 : decide (0 ≤ (ji26)) = true := decide_eq_true c27
                                clear c27
                                by_cases c28 : (ji26) ≤ (x0_1.size : Int)
                                · rw [if_pos c28] at H
                                  have c28b0 := eq_true c28
                                  have c28b1 : decide ((ji26) ≤ (x0_1.size : Int)) = true := decide_eq_true c28
                                  clear c28
                                  obtain ⟨ji29, hji29⟩ : ∃ j_ : Int, (wrap64 ((x1_1.size : Int) - x11_7)) = j_ := ⟨_, rfl⟩
                                  replace H : (if 0 ≤ (ji29) then (if (ji29) ≤ (x1_1.size : Int) then (match_matchTrimSuffix.l0 kj15 (x0_1.extract 0 ((ji26) : Int).toNat) (x1_1.extract 0 ((ji29) : Int).toNat) true x9_1) else (none)) else (none)) = some (r1, r2, r3) := by first | (rw [hji29] at H; exact H) | (simp only [hji29] at H ⊢; exact H)
                                  (try rw [hji29] at A19)
                                  (try rw [hji29] at A21)
                                  (try rw [hji29] at A22)
                                  have hji29w : (IntKind.i64.wrap ((x1_1.size : Int) - x11_7)) = ji29 := (i64_w _).trans hji29
                                  by_cases c30 : 0 ≤ (ji29)
                                  · rw [if_pos c30] at H
                                    have c30b0 := eq_true c30
                                    have c30b1 : decide (0 ≤ (ji29)) = true := decide_eq_true c30
                                    clear c30
                                    by_cases c31 : (ji29) ≤ (x1_1.size : Int)
                                    · rw [if_pos c31] at H
                                      have c31b0 := eq_true c31
                                      have c31b1 : decide ((ji29) ≤ (x1_1.size : Int)) = true := decide_eq_true c31
                                      clear c31
                                      have H' := Aside0.mk H
                                      clear H
                                      go_wp2_with (first | ((with_reducible refine gate_callee (f := 63) rfl ?_); refine goesL_ (some 54) rfl rfl Tryz.func63 (by kernel_rfl) rfl #[.string x0_1] rfl (by (try simp only [List.map_toArray, List.map_cons, List.map_nil]); first | done | rfl | (simp only [List.length_drop, List.length_take]; rfl)) ?_; (with_reducible refine (utf8_DecodeLastRuneInString.calls x0_1 t233 t234 _ ?side1 A19.out).mono ?_); (case side1 => exact Laid.below HLD.out (by repeat (first | (with_reducible first | exact HB.out | apply below_alloc | apply pw_below_drewN | apply below_drew1) | exact HB.out))); rintro e w32 ⟨rfl, hb⟩; refine ⟨_, rfl, ?_⟩; have n0_ := Aside0.mk (below_step (by repeat (first | (with_reducible first | exact HB.out | apply below_alloc | apply pw_below_drewN | apply below_drew1) | exact HB.out)) hb); clear HB; have HB := n0_; clear n0_; (try clear hb); (try clear hb2); (try clear hk); (try clear hi)) | ((with_reducible refine gate_callee (f := 47) rfl ?_); refine goesL_ (some 59) rfl rfl Tryz.func47 (by kernel_rfl) rfl #[.int .i32 t231] rfl (by (try simp only [List.map_toArray, List.map_cons, List.map_nil]); first | done | rfl | (simp only [List.length_drop, List.length_take]; rfl)) ?_; (with_reducible refine (match_tolower.calls t231 t235 _ A21.out).mono ?_); rintro e w' ⟨rfl, ⟨nd, rfl⟩⟩; refine ⟨_, rfl, ?_⟩) | ((with_reducible refine gate_callee (f := 47) rfl ?_); refine goesL_ (some 61) rfl rfl Tryz.func47 (by kernel_rfl) rfl #[.int .i32 t233] rfl (by (try simp only [List.map_toArray, List.map_cons, List.map_nil]); first | done | rfl | (simp only [List.length_drop, List.length_take]; rfl)) ?_; (with_reducible refine (match_tolower.calls t233 t236 _ A22.out).mono ?_); rintro e w' ⟨rfl, ⟨nd, rfl⟩⟩; refine ⟨_, rfl, ?_⟩))
                                      go_roundg kj15
                                      case measure => have := HK1.out; have := HJ3.out; have := HJ7.out; have := HJ15.out; omega
                                      case rel => exact ⟨(x0_1.extract 0 ((ji26) : Int).toNat), (x1_1.extract 0 ((ji29) : Int).toNat), (x9_1), (by first | rfl | (simp; done) | (simp only [← hji26] <;> (first | rfl | (simp; done))) | (simp [*]; done) | (simp only [*]; done)), (by first | rfl | (simp; done) | (simp only [← hji29] <;> (first | rfl | (simp; done))) | (simp [*]; done) | (simp only [*]; done)), (by first | rfl | (simp; done) | (simp [*]; done)), H', ⟨by have := HK1.out; have := HJ3.out; have := HJ7.out; have := HJ15.out; omega⟩, ⟨by repeat (first | (with_reducible first | exact HB.out | apply below_alloc | apply pw_below_drewN | apply below_drew1) | exact HB.out)⟩⟩
                                    · rw [if_neg c31] at H
                                      exact absurd H (by simp)
                                  · rw [if_neg c30] at H
                                    exact absurd H (by simp)
                                · rw [if_neg c28] at H
                                  exact absurd H (by simp)
                              · rw [if_neg c27] at H
                                exact absurd H (by simp)
                            · rw [if_neg c25] at H
                              have c25b0 : (t235 == t236) = false := beq_eq_false_iff_ne.mpr c25
                              have c25b1 : (t235 != t236) = true := bne_iff_ne.mpr c25
                              simp only [Option.some.injEq, Prod.mk.injEq] at H
                              obtain ⟨rfl, rfl, rfl⟩ := H
                              go_wp2_with (first | ((with_reducible refine gate_callee (f := 63) rfl ?_); refine goesL_ (some 54) rfl rfl Tryz.func63 (by kernel_rfl) rfl #[.string x0_1] rfl (by (try simp only [List.map_toArray, List.map_cons, List.map_nil]); first | done | rfl | (simp only [List.length_drop, List.length_take]; rfl)) ?_; (with_reducible refine (utf8_DecodeLastRuneInString.calls x0_1 t233 t234 _ ?side1 A19.out).mono ?_); (case side1 => exact Laid.below HLD.out (by repeat (first | (with_reducible first | exact HB.out | apply below_alloc | apply pw_below_drewN | apply below_drew1) | exact HB.out))); rintro e w33 ⟨rfl, hb⟩; refine ⟨_, rfl, ?_⟩; have n0_ := Aside0.mk (below_step (by repeat (first | (with_reducible first | exact HB.out | apply below_alloc | apply pw_below_drewN | apply below_drew1) | exact HB.out)) hb); clear HB; have HB := n0_; clear n0_; (try clear hb); (try clear hb2); (try clear hk); (try clear hi)) | ((with_reducible refine gate_callee (f := 47) rfl ?_); refine goesL_ (some 59) rfl rfl Tryz.func47 (by kernel_rfl) rfl #[.int .i32 t231] rfl (by (try simp only [List.map_toArray, List.map_cons, List.map_nil]); first | done | rfl | (simp only [List.length_drop, List.length_take]; rfl)) ?_; (with_reducible refine (match_tolower.calls t231 t235 _ A21.out).mono ?_); rintro e w' ⟨rfl, ⟨nd, rfl⟩⟩; refine ⟨_, rfl, ?_⟩) | ((with_reducible refine gate_callee (f := 47) rfl ?_); refine goesL_ (some 61) rfl rfl Tryz.func47 (by kernel_rfl) rfl #[.int .i32 t233] rfl (by (try simp only [List.map_toArray, List.map_cons, List.map_nil]); first | done | rfl | (simp only [List.length_drop, List.length_take]; rfl)) ?_; (with_reducible refine (match_tolower.calls t233 t236 _ A22.out).mono ?_); rintro e w' ⟨rfl, ⟨nd, rfl⟩⟩; refine ⟨_, rfl, ?_⟩))
                              go_ret3
                              exact ⟨by first | rfl | (simp [errW_none, errW_some] <;> rfl) | (simp [*, errW_none, errW_some] <;> rfl), by repeat (first | (with_reducible first | exact HB.out | apply below_alloc | apply pw_below_drewN | apply below_drew1) | exact HB.out)⟩
                          · replace c24 := Bool.eq_false_iff.mpr c24
                            subst c24
                            have H1 : (if 0 ≤ (wrap64 ((x0_1.size : Int) - t234)) then (if (wrap64 ((x0_1.size : Int) - t234)) ≤ (x0_1.size : Int) then (if 0 ≤ (wrap64 ((x1_1.size : Int) - x11_7)) then (if (wrap64 ((x1_1.size : Int) - x11_7)) ≤ (x1_1.size : Int) then (match_matchTrimSuffix.l0 kj15 (x0_1.extract 0 ((wrap64 ((x0_1.size : Int) - t234)) : Int).toNat) (x1_1.extract 0 ((wrap64 ((x1_1.size : Int) - x11_7)) : Int).toNat) true x9_1) else (none)) else (none)) else (none)) else (none)) = some (r1, r2, r3) := by rw [if_neg (show ¬ (false = true) by decide)] at H; exact H
                            clear H
                            have H := H1
                            clear H1
                            obtain ⟨ji34, hji34⟩ : ∃ j_ : Int, (wrap64 ((x0_1.size : Int) - t234)) = j_ := ⟨_, rfl⟩
                            replace H : (if 0 ≤ (ji34) then (if (ji34) ≤ (x0_1.size : Int) then (if 0 ≤ (wrap64 ((x1_1.size : Int) - x11_7)) then (if (wrap64 ((x1_1.size : Int) - x11_7)) ≤ (x1_1.size : Int) then (match_matchTrimSuffix.l0 kj15 (x0_1.extract 0 ((ji34) : Int).toNat) (x1_1.extract 0 ((wrap64 ((x1_1.size : Int) - x11_7)) : Int).toNat) true x9_1) else (none)) else (none)) else (none)) else (none)) = some (r1, r2, r3) := by first | (rw [hji34] at H; exact H) | (simp only [hji34] at H ⊢; exact H)
                            (try rw [hji34] at A19)
                            (try rw [hji34] at A21)
                            (try rw [hji34] at A22)
                            have hji34w : (IntKind.i64.wrap ((x0_1.size : Int) - t234)) = ji34 := (i64_w _).trans hji34
                            by_cases c35 : 0 ≤ (ji34)
                            · rw [if_pos c35] at H
                              have c35b0 := eq_true c35
                              have c35b1 : decide (0 ≤ (ji34)) = true := decide_eq_true c35
                              clear c35
                              by_cases c36 : (ji34) ≤ (x0_1.size : Int)
                              · rw [if_pos c36] at H
                                have c36b0 := eq_true c36
                                have c36b1 : decide ((ji34) ≤ (x0_1.size : Int)) = true := decide_eq_true c36
                                clear c36
                                obtain ⟨ji37, hji37⟩ : ∃ j_ : Int, (wrap64 ((x1_1.size : Int) - x11_7)) = j_ := ⟨_, rfl⟩
                                replace H : (if 0 ≤ (ji37) then (if (ji37) ≤ (x1_1.size : Int) then (match_matchTrimSuffix.l0 kj15 (x0_1.extract 0 ((ji34) : Int).toNat) (x1_1.extract 0 ((ji37) : Int).toNat) true x9_1) else (none)) else (none)) = some (r1, r2, r3) := by first | (rw [hji37] at H; exact H) | (simp only [hji37] at H ⊢; exact H)
                                (try rw [hji37] at A19)
                                (try rw [hji37] at A21)
                                (try rw [hji37] at A22)
                                have hji37w : (IntKind.i64.wrap ((x1_1.size : Int) - x11_7)) = ji37 := (i64_w _).trans hji37
                                by_cases c38 : 0 ≤ (ji37)
                                · rw [if_pos c38] at H
                                  have c38b0 := eq_true c38
                                  have c38b1 : decide (0 ≤ (ji37)) = true := decide_eq_true c38
                                  clear c38
                                  by_cases c39 : (ji37) ≤ (x1_1.size : Int)
                                  · rw [if_pos c39] at H
                                    have c39b0 := eq_true c39
                                    have c39b1 : decide ((ji37) ≤ (x1_1.size : Int)) = true := decide_eq_true c39
                                    clear c39
                                    have H' := Aside0.mk H
                                    clear H
                                    go_wp2_with (first | ((with_reducible refine gate_callee (f := 63) rfl ?_); refine goesL_ (some 54) rfl rfl Tryz.func63 (by kernel_rfl) rfl #[.string x0_1] rfl (by (try simp only [List.map_toArray, List.map_cons, List.map_nil]); first | done | rfl | (simp only [List.length_drop, List.length_take]; rfl)) ?_; (with_reducible refine (utf8_DecodeLastRuneInString.calls x0_1 t233 t234 _ ?side1 A19.out).mono ?_); (case side1 => exact Laid.below HLD.out (by repeat (first | (with_reducible first | exact HB.out | apply below_alloc | apply pw_below_drewN | apply below_drew1) | exact HB.out))); rintro e w40 ⟨rfl, hb⟩; refine ⟨_, rfl, ?_⟩; have n0_ := Aside0.mk (below_step (by repeat (first | (with_reducible first | exact HB.out | apply below_alloc | apply pw_below_drewN | apply below_drew1) | exact HB.out)) hb); clear HB; have HB := n0_; clear n0_; (try clear hb); (try clear hb2); (try clear hk); (try clear hi)) | ((with_reducible refine gate_callee (f := 47) rfl ?_); refine goesL_ (some 59) rfl rfl Tryz.func47 (by kernel_rfl) rfl #[.int .i32 t231] rfl (by (try simp only [List.map_toArray, List.map_cons, List.map_nil]); first | done | rfl | (simp only [List.length_drop, List.length_take]; rfl)) ?_; (with_reducible refine (match_tolower.calls t231 t235 _ A21.out).mono ?_); rintro e w' ⟨rfl, ⟨nd, rfl⟩⟩; refine ⟨_, rfl, ?_⟩) | ((with_reducible refine gate_callee (f := 47) rfl ?_); refine goesL_ (some 61) rfl rfl Tryz.func47 (by kernel_rfl) rfl #[.int .i32 t233] rfl (by (try simp only [List.map_toArray, List.map_cons, List.map_nil]); first | done | rfl | (simp only [List.length_drop, List.length_take]; rfl)) ?_; (with_reducible refine (match_tolower.calls t233 t236 _ A22.out).mono ?_); rintro e w' ⟨rfl, ⟨nd, rfl⟩⟩; refine ⟨_, rfl, ?_⟩))
                                    go_roundg kj15
                                    case measure => have := HK1.out; have := HJ3.out; have := HJ7.out; have := HJ15.out; omega
                                    case rel => exact ⟨(x0_1.extract 0 ((ji34) : Int).toNat), (x1_1.extract 0 ((ji37) : Int).toNat), (x9_1), (by first | rfl | (simp; done) | (simp only [← hji34] <;> (first | rfl | (simp; done))) | (simp [*]; done) | (simp only [*]; done)), (by first | rfl | (simp; done) | (simp only [← hji37] <;> (first | rfl | (simp; done))) | (simp [*]; done) | (simp only [*]; done)), (by first | rfl | (simp; done) | (simp [*]; done)), H', ⟨by have := HK1.out; have := HJ3.out; have := HJ7.out; have := HJ15.out; omega⟩, ⟨by repeat (first | (with_reducible first | exact HB.out | apply below_alloc | apply pw_below_drewN | apply below_drew1) | exact HB.out)⟩⟩
                                  · rw [if_neg c39] at H
                                    exact absurd H (by simp)
                                · rw [if_neg c38] at H
                                  exact absurd H (by simp)
                              · rw [if_neg c36] at H
                                exact absurd H (by simp)
                            · rw [if_neg c35] at H
                              exact absurd H (by simp)
                        · rw [if_neg c23] at H
                          have c23b0 : (t235 == 63) = false := beq_eq_false_iff_ne.mpr c23
                          have c23b1 : (t235 != 63) = true := bne_iff_ne.mpr c23
                          by_cases c41 : t235 = t236
                          · rw [if_pos c41] at H
                            have c41b0 : (t235 == t236) = true := beq_iff_eq.mpr c41
                            have c41b1 : (t235 != t236) = false := bne_eq_false_iff_eq.mpr c41
                            clear c41
                            obtain ⟨ji42, hji42⟩ : ∃ j_ : Int, (wrap64 ((x0_1.size : Int) - t234)) = j_ := ⟨_, rfl⟩
                            replace H : (if 0 ≤ (ji42) then (if (ji42) ≤ (x0_1.size : Int) then (if 0 ≤ (wrap64 ((x1_1.size : Int) - x11_7)) then (if (wrap64 ((x1_1.size : Int) - x11_7)) ≤ (x1_1.size : Int) then (match_matchTrimSuffix.l0 kj15 (x0_1.extract 0 ((ji42) : Int).toNat) (x1_1.extract 0 ((wrap64 ((x1_1.size : Int) - x11_7)) : Int).toNat) true x9_1) else (none)) else (none)) else (none)) else (none)) = some (r1, r2, r3) := by first | (rw [hji42] at H; exact H) | (simp only [hji42] at H ⊢; exact H)
                            (try rw [hji42] at A19)
                            (try rw [hji42] at A21)
                            (try rw [hji42] at A22)
                            have hji42w : (IntKind.i64.wrap ((x0_1.size : Int) - t234)) = ji42 := (i64_w _).trans hji42
                            by_cases c43 : 0 ≤ (ji42)
                            · rw [if_pos c43] at H
                              have c43b0 := eq_true c43
                              have c43b1 : decide (0 ≤ (ji42)) = true := decide_eq_true c43
                              clear c43
                              by_cases c44 : (ji42) ≤ (x0_1.size : Int)
                              · rw [if_pos c44] at H
                                have c44b0 := eq_true c44
                                have c44b1 : decide ((ji42) ≤ (x0_1.size : Int)) = true := decide_eq_true c44
                                clear c44
                                obtain ⟨ji45, hji45⟩ : ∃ j_ : Int, (wrap64 ((x1_1.size : Int) - x11_7)) = j_ := ⟨_, rfl⟩
                                replace H : (if 0 ≤ (ji45) then (if (ji45) ≤ (x1_1.size : Int) then (match_matchTrimSuffix.l0 kj15 (x0_1.extract 0 ((ji42) : Int).toNat) (x1_1.extract 0 ((ji45) : Int).toNat) true x9_1) else (none)) else (none)) = some (r1, r2, r3) := by first | (rw [hji45] at H; exact H) | (simp only [hji45] at H ⊢; exact H)
                                (try rw [hji45] at A19)
                                (try rw [hji45] at A21)
                                (try rw [hji45] at A22)
                                have hji45w : (IntKind.i64.wrap ((x1_1.size : Int) - x11_7)) = ji45 := (i64_w _).trans hji45
                                by_cases c46 : 0 ≤ (ji45)
                                · rw [if_pos c46] at H
                                  have c46b0 := eq_true c46
                                  have c46b1 : decide (0 ≤ (ji45)) = true := decide_eq_true c46
                                  clear c46
                                  by_cases c47 : (ji45) ≤ (x1_1.size : Int)
                                  · rw [if_pos c47] at H
                                    have c47b0 := eq_true c47
                                    have c47b1 : decide ((ji45) ≤ (x1_1.size : Int)) = true := decide_eq_true c47
                                    clear c47
                                    have H' := Aside0.mk H
                                    clear H
                                    go_wp2_with (first | ((with_reducible refine gate_callee (f := 63) rfl ?_); refine goesL_ (some 54) rfl rfl Tryz.func63 (by kernel_rfl) rfl #[.string x0_1] rfl (by (try simp only [List.map_toArray, List.map_cons, List.map_nil]); first | done | rfl | (simp only [List.length_drop, List.length_take]; rfl)) ?_; (with_reducible refine (utf8_DecodeLastRuneInString.calls x0_1 t233 t234 _ ?side1 A19.out).mono ?_); (case side1 => exact Laid.below HLD.out (by repeat (first | (with_reducible first | exact HB.out | apply below_alloc | apply pw_below_drewN | apply below_drew1) | exact HB.out))); rintro e w48 ⟨rfl, hb⟩; refine ⟨_, rfl, ?_⟩; have n0_ := Aside0.mk (below_step (by repeat (first | (with_reducible first | exact HB.out | apply below_alloc | apply pw_below_drewN | apply below_drew1) | exact HB.out)) hb); clear HB; have HB := n0_; clear n0_; (try clear hb); (try clear hb2); (try clear hk); (try clear hi)) | ((with_reducible refine gate_callee (f := 47) rfl ?_); refine goesL_ (some 59) rfl rfl Tryz.func47 (by kernel_rfl) rfl #[.int .i32 t231] rfl (by (try simp only [List.map_toArray, List.map_cons, List.map_nil]); first | done | rfl | (simp only [List.length_drop, List.length_take]; rfl)) ?_; (with_reducible refine (match_tolower.calls t231 t235 _ A21.out).mono ?_); rintro e w' ⟨rfl, ⟨nd, rfl⟩⟩; refine ⟨_, rfl, ?_⟩) | ((with_reducible refine gate_callee (f := 47) rfl ?_); refine goesL_ (some 61) rfl rfl Tryz.func47 (by kernel_rfl) rfl #[.int .i32 t233] rfl (by (try simp only [List.map_toArray, List.map_cons, List.map_nil]); first | done | rfl | (simp only [List.length_drop, List.length_take]; rfl)) ?_; (with_reducible refine (match_tolower.calls t233 t236 _ A22.out).mono ?_); rintro e w' ⟨rfl, ⟨nd, rfl⟩⟩; refine ⟨_, rfl, ?_⟩))
                                    go_roundg kj15
                                    case measure => have := HK1.out; have := HJ3.out; have := HJ7.out; have := HJ15.out; omega
                                    case rel => exact ⟨(x0_1.extract 0 ((ji42) : Int).toNat), (x1_1.extract 0 ((ji45) : Int).toNat), (x9_1), (by first | rfl | (simp; done) | (simp only [← hji42] <;> (first | rfl | (simp; done))) | (simp [*]; done) | (simp only [*]; done)), (by first | rfl | (simp; done) | (simp only [← hji45] <;> (first | rfl | (simp; done))) | (simp [*]; done) | (simp only [*]; done)), (by first | rfl | (simp; done) | (simp [*]; done)), H', ⟨by have := HK1.out; have := HJ3.out; have := HJ7.out; have := HJ15.out; omega⟩, ⟨by repeat (first | (with_reducible first | exact HB.out | apply below_alloc | apply pw_below_drewN | apply below_drew1) | exact HB.out)⟩⟩
                                  · rw [if_neg c47] at H
                                    exact absurd H (by simp)
                                · rw [if_neg c46] at H
                                  exact absurd H (by simp)
                              · rw [if_neg c44] at H
                                exact absurd H (by simp)
                            · rw [if_neg c43] at H
                              exact absurd H (by simp)
                          · rw [if_neg c41] at H
                            have c41b0 : (t235 == t236) = false := beq_eq_false_iff_ne.mpr c41
                            have c41b1 : (t235 != t236) = true := bne_iff_ne.mpr c41
                            simp only [Option.some.injEq, Prod.mk.injEq] at H
                            obtain ⟨rfl, rfl, rfl⟩ := H
                            go_wp2_with (first | ((with_reducible refine gate_callee (f := 63) rfl ?_); refine goesL_ (some 54) rfl rfl Tryz.func63 (by kernel_rfl) rfl #[.string x0_1] rfl (by (try simp only [List.map_toArray, List.map_cons, List.map_nil]); first | done | rfl | (simp only [List.length_drop, List.length_take]; rfl)) ?_; (with_reducible refine (utf8_DecodeLastRuneInString.calls x0_1 t233 t234 _ ?side1 A19.out).mono ?_); (case side1 => exact Laid.below HLD.out (by repeat (first | (with_reducible first | exact HB.out | apply below_alloc | apply pw_below_drewN | apply below_drew1) | exact HB.out))); rintro e w49 ⟨rfl, hb⟩; refine ⟨_, rfl, ?_⟩; have n0_ := Aside0.mk (below_step (by repeat (first | (with_reducible first | exact HB.out | apply below_alloc | apply pw_below_drewN | apply below_drew1) | exact HB.out)) hb); clear HB; have HB := n0_; clear n0_; (try clear hb); (try clear hb2); (try clear hk); (try clear hi)) | ((with_reducible refine gate_callee (f := 47) rfl ?_); refine goesL_ (some 59) rfl rfl Tryz.func47 (by kernel_rfl) rfl #[.int .i32 t231] rfl (by (try simp only [List.map_toArray, List.map_cons, List.map_nil]); first | done | rfl | (simp only [List.length_drop, List.length_take]; rfl)) ?_; (with_reducible refine (match_tolower.calls t231 t235 _ A21.out).mono ?_); rintro e w' ⟨rfl, ⟨nd, rfl⟩⟩; refine ⟨_, rfl, ?_⟩) | ((with_reducible refine gate_callee (f := 47) rfl ?_); refine goesL_ (some 61) rfl rfl Tryz.func47 (by kernel_rfl) rfl #[.int .i32 t233] rfl (by (try simp only [List.map_toArray, List.map_cons, List.map_nil]); first | done | rfl | (simp only [List.length_drop, List.length_take]; rfl)) ?_; (with_reducible refine (match_tolower.calls t233 t236 _ A22.out).mono ?_); rintro e w' ⟨rfl, ⟨nd, rfl⟩⟩; refine ⟨_, rfl, ?_⟩))
                            go_ret3
                            exact ⟨by first | rfl | (simp [errW_none, errW_some] <;> rfl) | (simp [*, errW_none, errW_some] <;> rfl), by repeat (first | (with_reducible first | exact HB.out | apply below_alloc | apply pw_below_drewN | apply below_drew1) | exact HB.out)⟩
                      · replace c20 := Bool.eq_false_iff.mpr c20
                        subst c20
                        have H1 : (if t231 = 63 then (if x12_7 = true then (if t231 = t233 then (if 0 ≤ (wrap64 ((x0_1.size : Int) - t234)) then (if (wrap64 ((x0_1.size : Int) - t234)) ≤ (x0_1.size : Int) then (if 0 ≤ (wrap64 ((x1_1.size : Int) - x11_7)) then (if (wrap64 ((x1_1.size : Int) - x11_7)) ≤ (x1_1.size : Int) then (match_matchTrimSuffix.l0 kj15 (x0_1.extract 0 ((wrap64 ((x0_1.size : Int) - t234)) : Int).toNat) (x1_1.extract 0 ((wrap64 ((x1_1.size : Int) - x11_7)) : Int).toNat) false x9_1) else (none)) else (none)) else (none)) else (none)) else (some (x0_1, x1_1, false))) else (if 0 ≤ (wrap64 ((x0_1.size : Int) - t234)) then (if (wrap64 ((x0_1.size : Int) - t234)) ≤ (x0_1.size : Int) then (if 0 ≤ (wrap64 ((x1_1.size : Int) - x11_7)) then (if (wrap64 ((x1_1.size : Int) - x11_7)) ≤ (x1_1.size : Int) then (match_matchTrimSuffix.l0 kj15 (x0_1.extract 0 ((wrap64 ((x0_1.size : Int) - t234)) : Int).toNat) (x1_1.extract 0 ((wrap64 ((x1_1.size : Int) - x11_7)) : Int).toNat) false x9_1) else (none)) else (none)) else (none)) else (none))) else (if t231 = t233 then (if 0 ≤ (wrap64 ((x0_1.size : Int) - t234)) then (if (wrap64 ((x0_1.size : Int) - t234)) ≤ (x0_1.size : Int) then (if 0 ≤ (wrap64 ((x1_1.size : Int) - x11_7)) then (if (wrap64 ((x1_1.size : Int) - x11_7)) ≤ (x1_1.size : Int) then (match_matchTrimSuffix.l0 kj15 (x0_1.extract 0 ((wrap64 ((x0_1.size : Int) - t234)) : Int).toNat) (x1_1.extract 0 ((wrap64 ((x1_1.size : Int) - x11_7)) : Int).toNat) false x9_1) else (none)) else (none)) else (none)) else (none)) else (some (x0_1, x1_1, false)))) = some (r1, r2, r3) := by rw [if_neg (show ¬ (false = true) by decide)] at H; exact H
                        clear H
                        have H := H1
                        clear H1
                        by_cases c50 : t231 = 63
                        · rw [if_pos c50] at H
                          have c50b0 : (t231 == 63) = true := beq_iff_eq.mpr c50
                          have c50b1 : (t231 != 63) = false := bne_eq_false_iff_eq.mpr c50
                          clear c50
                          by_cases c51 : x12_7 = true
                          · subst c51
                            have H1 : (if t231 = t233 then (if 0 ≤ (wrap64 ((x0_1.size : Int) - t234)) then (if (wrap64 ((x0_1.size : Int) - t234)) ≤ (x0_1.size : Int) then (if 0 ≤ (wrap64 ((x1_1.size : Int) - x11_7)) then (if (wrap64 ((x1_1.size : Int) - x11_7)) ≤ (x1_1.size : Int) then (match_matchTrimSuffix.l0 kj15 (x0_1.extract 0 ((wrap64 ((x0_1.size : Int) - t234)) : Int).toNat) (x1_1.extract 0 ((wrap64 ((x1_1.size : Int) - x11_7)) : Int).toNat) false x9_1) else (none)) else (none)) else (none)) else (none)) else (some (x0_1, x1_1, false))) = some (r1, r2, r3) := by rw [if_pos rfl] at H; exact H
                            clear H
                            have H := H1
                            clear H1
                            by_cases c52 : t231 = t233
                            · rw [if_pos c52] at H
                              have c52b0 : (t231 == t233) = true := beq_iff_eq.mpr c52
                              have c52b1 : (t231 != t233) = false := bne_eq_false_iff_eq.mpr c52
                              clear c52
                              obtain ⟨ji53, hji53⟩ : ∃ j_ : Int, (wrap64 ((x0_1.size : Int) - t234)) = j_ := ⟨_, rfl⟩
                              replace H : (if 0 ≤ (ji53) then (if (ji53) ≤ (x0_1.size : Int) then (if 0 ≤ (wrap64 ((x1_1.size : Int) - x11_7)) then (if (wrap64 ((x1_1.size : Int) - x11_7)) ≤ (x1_1.size : Int) then (match_matchTrimSuffix.l0 kj15 (x0_1.extract 0 ((ji53) : Int).toNat) (x1_1.extract 0 ((wrap64 ((x1_1.size : Int) - x11_7)) : Int).toNat) false x9_1) else (none)) else (none)) else (none)) else (none)) = some (r1, r2, r3) := by first | (rw [hji53] at H; exact H) | (simp only [hji53] at H ⊢; exact H)
                              (try rw [hji53] at A19)
                              have hji53w : (IntKind.i64.wrap ((x0_1.size : Int) - t234)) = ji53 := (i64_w _).trans hji53
                              by_cases c54 : 0 ≤ (ji53)
                              · rw [if_pos c54] at H
                                have c54b0 := eq_true c54
                                have c54b1 : decide (0 ≤ (ji53)) = true := decide_eq_true c54
                                clear c54
                                by_cases c55 : (ji53) ≤ (x0_1.size : Int)
                                · rw [if_pos c55] at H
                                  have c55b0 := eq_true c55
                                  have c55b1 : decide ((ji53) ≤ (x0_1.size : Int)) = true := decide_eq_true c55
                                  clear c55
                                  obtain ⟨ji56, hji56⟩ : ∃ j_ : Int, (wrap64 ((x1_1.size : Int) - x11_7)) = j_ := ⟨_, rfl⟩
                                  replace H : (if 0 ≤ (ji56) then (if (ji56) ≤ (x1_1.size : Int) then (match_matchTrimSuffix.l0 kj15 (x0_1.extract 0 ((ji53) : Int).toNat) (x1_1.extract 0 ((ji56) : Int).toNat) false x9_1) else (none)) else (none)) = some (r1, r2, r3) := by first | (rw [hji56] at H; exact H) | (simp only [hji56] at H ⊢; exact H)
                                  (try rw [hji56] at A19)
                                  have hji56w : (IntKind.i64.wrap ((x1_1.size : Int) - x11_7)) = ji56 := (i64_w _).trans hji56
                                  by_cases c57 : 0 ≤ (ji56)
                                  · rw [if_pos c57] at H
                                    have c57b0 := eq_true c57
                                    have c57b1 : decide (0 ≤ (ji56)) = true := decide_eq_true c57
                                    clear c57
                                    by_cases c58 : (ji56) ≤ (x1_1.size : Int)
                                    · rw [if_pos c58] at H
                                      have c58b0 := eq_true c58
                                      have c58b1 : decide ((ji56) ≤ (x1_1.size : Int)) = true := decide_eq_true c58
                                      clear c58
                                      have H' := Aside0.mk H
                                      clear H
                                      go_wp2_with (first | ((with_reducible refine gate_callee (f := 63) rfl ?_); refine goesL_ (some 54) rfl rfl Tryz.func63 (by kernel_rfl) rfl #[.string x0_1] rfl (by (try simp only [List.map_toArray, List.map_cons, List.map_nil]); first | done | rfl | (simp only [List.length_drop, List.length_take]; rfl)) ?_; (with_reducible refine (utf8_DecodeLastRuneInString.calls x0_1 t233 t234 _ ?side1 A19.out).mono ?_); (case side1 => exact Laid.below HLD.out (by repeat (first | (with_reducible first | exact HB.out | apply below_alloc | apply pw_below_drewN | apply below_drew1) | exact HB.out))); rintro e w59 ⟨rfl, hb⟩; refine ⟨_, rfl, ?_⟩; have n0_ := Aside0.mk (below_step (by repeat (first | (with_reducible first | exact HB.out | apply below_alloc | apply pw_below_drewN | apply below_drew1) | exact HB.out)) hb); clear HB; have HB := n0_; clear n0_; (try clear hb); (try clear hb2); (try clear hk); (try clear hi)))
                                      go_roundg kj15
                                      case measure => have := HK1.out; have := HJ3.out; have := HJ7.out; have := HJ15.out; omega
                                      case rel => exact ⟨(x0_1.extract 0 ((ji53) : Int).toNat), (x1_1.extract 0 ((ji56) : Int).toNat), (x9_1), (by first | rfl | (simp; done) | (simp only [← hji53] <;> (first | rfl | (simp; done))) | (simp [*]; done) | (simp only [*]; done)), (by first | rfl | (simp; done) | (simp only [← hji56] <;> (first | rfl | (simp; done))) | (simp [*]; done) | (simp only [*]; done)), (by first | rfl | (simp; done) | (simp [*]; done)), H', ⟨by have := HK1.out; have := HJ3.out; have := HJ7.out; have := HJ15.out; omega⟩, ⟨by repeat (first | (with_reducible first | exact HB.out | apply below_alloc | apply pw_below_drewN | apply below_drew1) | exact HB.out)⟩⟩
                                    · rw [if_neg c58] at H
                                      exact absurd H (by simp)
                                  · rw [if_neg c57] at H
                                    exact absurd H (by simp)
                                · rw [if_neg c55] at H
                                  exact absurd H (by simp)
                              · rw [if_neg c54] at H
                                exact absurd H (by simp)
                            · rw [if_neg c52] at H
                              have c52b0 : (t231 == t233) = false := beq_eq_false_iff_ne.mpr c52
                              have c52b1 : (t231 != t233) = true := bne_iff_ne.mpr c52
                              simp only [Option.some.injEq, Prod.mk.injEq] at H
                              obtain ⟨rfl, rfl, rfl⟩ := H
                              go_wp2_with (first | ((with_reducible refine gate_callee (f := 63) rfl ?_); refine goesL_ (some 54) rfl rfl Tryz.func63 (by kernel_rfl) rfl #[.string x0_1] rfl (by (try simp only [List.map_toArray, List.map_cons, List.map_nil]); first | done | rfl | (simp only [List.length_drop, List.length_take]; rfl)) ?_; (with_reducible refine (utf8_DecodeLastRuneInString.calls x0_1 t233 t234 _ ?side1 A19.out).mono ?_); (case side1 => exact Laid.below HLD.out (by repeat (first | (with_reducible first | exact HB.out | apply below_alloc | apply pw_below_drewN | apply below_drew1) | exact HB.out))); rintro e w60 ⟨rfl, hb⟩; refine ⟨_, rfl, ?_⟩; have n0_ := Aside0.mk (below_step (by repeat (first | (with_reducible first | exact HB.out | apply below_alloc | apply pw_below_drewN | apply below_drew1) | exact HB.out)) hb); clear HB; have HB := n0_; clear n0_; (try clear hb); (try clear hb2); (try clear hk); (try clear hi)))
                              go_ret3
                              exact ⟨by first | rfl | (simp [errW_none, errW_some] <;> rfl) | (simp [*, errW_none, errW_some] <;> rfl), by repeat (first | (with_reducible first | exact HB.out | apply below_alloc | apply pw_below_drewN | apply below_drew1) | exact HB.out)⟩
                          · replace c51 := Bool.eq_false_iff.mpr c51
                            subst c51
                            have H1 : (if 0 ≤ (wrap64 ((x0_1.size : Int) - t234)) then (if (wrap64 ((x0_1.size : Int) - t234)) ≤ (x0_1.size : Int) then (if 0 ≤ (wrap64 ((x1_1.size : Int) - x11_7)) then (if (wrap64 ((x1_1.size : Int) - x11_7)) ≤ (x1_1.size : Int) then (match_matchTrimSuffix.l0 kj15 (x0_1.extract 0 ((wrap64 ((x0_1.size : Int) - t234)) : Int).toNat) (x1_1.extract 0 ((wrap64 ((x1_1.size : Int) - x11_7)) : Int).toNat) false x9_1) else (none)) else (none)) else (none)) else (none)) = some (r1, r2, r3) := by rw [if_neg (show ¬ (false = true) by decide)] at H; exact H
                            clear H
                            have H := H1
                            clear H1
                            obtain ⟨ji61, hji61⟩ : ∃ j_ : Int, (wrap64 ((x0_1.size : Int) - t234)) = j_ := ⟨_, rfl⟩
                            replace H : (if 0 ≤ (ji61) then (if (ji61) ≤ (x0_1.size : Int) then (if 0 ≤ (wrap64 ((x1_1.size : Int) - x11_7)) then (if (wrap64 ((x1_1.size : Int) - x11_7)) ≤ (x1_1.size : Int) then (match_matchTrimSuffix.l0 kj15 (x0_1.extract 0 ((ji61) : Int).toNat) (x1_1.extract 0 ((wrap64 ((x1_1.size : Int) - x11_7)) : Int).toNat) false x9_1) else (none)) else (none)) else (none)) else (none)) = some (r1, r2, r3) := by first | (rw [hji61] at H; exact H) | (simp only [hji61] at H ⊢; exact H)
                            (try rw [hji61] at A19)
                            have hji61w : (IntKind.i64.wrap ((x0_1.size : Int) - t234)) = ji61 := (i64_w _).trans hji61
                            by_cases c62 : 0 ≤ (ji61)
                            · rw [if_pos c62] at H
                              have c62b0 := eq_true c62
                              have c62b1 : decide (0 ≤ (ji61)) = true := decide_eq_true c62
                              clear c62
                              by_cases c63 : (ji61) ≤ (x0_1.size : Int)
                              · rw [if_pos c63] at H
                                have c63b0 := eq_true c63
                                have c63b1 : decide ((ji61) ≤ (x0_1.size : Int)) = true := decide_eq_true c63
                                clear c63
                                obtain ⟨ji64, hji64⟩ : ∃ j_ : Int, (wrap64 ((x1_1.size : Int) - x11_7)) = j_ := ⟨_, rfl⟩
                                replace H : (if 0 ≤ (ji64) then (if (ji64) ≤ (x1_1.size : Int) then (match_matchTrimSuffix.l0 kj15 (x0_1.extract 0 ((ji61) : Int).toNat) (x1_1.extract 0 ((ji64) : Int).toNat) false x9_1) else (none)) else (none)) = some (r1, r2, r3) := by first | (rw [hji64] at H; exact H) | (simp only [hji64] at H ⊢; exact H)
                                (try rw [hji64] at A19)
                                have hji64w : (IntKind.i64.wrap ((x1_1.size : Int) - x11_7)) = ji64 := (i64_w _).trans hji64
                                by_cases c65 : 0 ≤ (ji64)
                                · rw [if_pos c65] at H
                                  have c65b0 := eq_true c65
                                  have c65b1 : decide (0 ≤ (ji64)) = true := decide_eq_true c65
                                  clear c65
                                  by_cases c66 : (ji64) ≤ (x1_1.size : Int)
                                  · rw [if_pos c66] at H
                                    have c66b0 := eq_true c66
                                    have c66b1 : decide ((ji64) ≤ (x1_1.size : Int)) = true := decide_eq_true c66
                                    clear c66
                                    have H' := Aside0.mk H
                                    clear H
                                    go_wp2_with (first | ((with_reducible refine gate_callee (f := 63) rfl ?_); refine goesL_ (some 54) rfl rfl Tryz.func63 (by kernel_rfl) rfl #[.string x0_1] rfl (by (try simp only [List.map_toArray, List.map_cons, List.map_nil]); first | done | rfl | (simp only [List.length_drop, List.length_take]; rfl)) ?_; (with_reducible refine (utf8_DecodeLastRuneInString.calls x0_1 t233 t234 _ ?side1 A19.out).mono ?_); (case side1 => exact Laid.below HLD.out (by repeat (first | (with_reducible first | exact HB.out | apply below_alloc | apply pw_below_drewN | apply below_drew1) | exact HB.out))); rintro e w67 ⟨rfl, hb⟩; refine ⟨_, rfl, ?_⟩; have n0_ := Aside0.mk (below_step (by repeat (first | (with_reducible first | exact HB.out | apply below_alloc | apply pw_below_drewN | apply below_drew1) | exact HB.out)) hb); clear HB; have HB := n0_; clear n0_; (try clear hb); (try clear hb2); (try clear hk); (try clear hi)))
                                    go_roundg kj15
                                    case measure => have := HK1.out; have := HJ3.out; have := HJ7.out; have := HJ15.out; omega
                                    case rel => exact ⟨(x0_1.extract 0 ((ji61) : Int).toNat), (x1_1.extract 0 ((ji64) : Int).toNat), (x9_1), (by first | rfl | (simp; done) | (simp only [← hji61] <;> (first | rfl | (simp; done))) | (simp [*]; done) | (simp only [*]; done)), (by first | rfl | (simp; done) | (simp only [← hji64] <;> (first | rfl | (simp; done))) | (simp [*]; done) | (simp only [*]; done)), (by first | rfl | (simp; done) | (simp [*]; done)), H', ⟨by have := HK1.out; have := HJ3.out; have := HJ7.out; have := HJ15.out; omega⟩, ⟨by repeat (first | (with_reducible first | exact HB.out | apply below_alloc | apply pw_below_drewN | apply below_drew1) | exact HB.out)⟩⟩
                                  · rw [if_neg c66] at H
                                    exact absurd H (by simp)
                                · rw [if_neg c65] at H
                                  exact absurd H (by simp)
                              · rw [if_neg c63] at H
                                exact absurd H (by simp)
                            · rw [if_neg c62] at H
                              exact absurd H (by simp)
                        · rw [if_neg c50] at H
                          have c50b0 : (t231 == 63) = false := beq_eq_false_iff_ne.mpr c50
                          have c50b1 : (t231 != 63) = true := bne_iff_ne.mpr c50
                          by_cases c68 : t231 = t233
                          · rw [if_pos c68] at H
                            have c68b0 : (t231 == t233) = true := beq_iff_eq.mpr c68
                            have c68b1 : (t231 != t233) = false := bne_eq_false_iff_eq.mpr c68
                            clear c68
                            obtain ⟨ji69, hji69⟩ : ∃ j_ : Int, (wrap64 ((x0_1.size : Int) - t234)) = j_ := ⟨_, rfl⟩
                            replace H : (if 0 ≤ (ji69) then (if (ji69) ≤ (x0_1.size : Int) then (if 0 ≤ (wrap64 ((x1_1.size : Int) - x11_7)) then (if (wrap64 ((x1_1.size : Int) - x11_7)) ≤ (x1_1.size : Int) then (match_matchTrimSuffix.l0 kj15 (x0_1.extract 0 ((ji69) : Int).toNat) (x1_1.extract 0 ((wrap64 ((x1_1.size : Int) - x11_7)) : Int).toNat) false x9_1) else (none)) else (none)) else (none)) else (none)) = some (r1, r2, r3) := by first | (rw [hji69] at H; exact H) | (simp only [hji69] at H ⊢; exact H)
                            (try rw [hji69] at A19)
                            have hji69w : (IntKind.i64.wrap ((x0_1.size : Int) - t234)) = ji69 := (i64_w _).trans hji69
                            by_cases c70 : 0 ≤ (ji69)
                            · rw [if_pos c70] at H
                              have c70b0 := eq_true c70
                              have c70b1 : decide (0 ≤ (ji69)) = true := decide_eq_true c70
                              clear c70
                              by_cases c71 : (ji69) ≤ (x0_1.size : Int)
                              · rw [if_pos c71] at H
                                have c71b0 := eq_true c71
                                have c71b1 : decide ((ji69) ≤ (x0_1.size : Int)) = true := decide_eq_true c71
                                clear c71
                                obtain ⟨ji72, hji72⟩ : ∃ j_ : Int, (wrap64 ((x1_1.size : Int) - x11_7)) = j_ := ⟨_, rfl⟩
                                replace H : (if 0 ≤ (ji72) then (if (ji72) ≤ (x1_1.size : Int) then (match_matchTrimSuffix.l0 kj15 (x0_1.extract 0 ((ji69) : Int).toNat) (x1_1.extract 0 ((ji72) : Int).toNat) false x9_1) else (none)) else (none)) = some (r1, r2, r3) := by first | (rw [hji72] at H; exact H) | (simp only [hji72] at H ⊢; exact H)
                                (try rw [hji72] at A19)
                                have hji72w : (IntKind.i64.wrap ((x1_1.size : Int) - x11_7)) = ji72 := (i64_w _).trans hji72
                                by_cases c73 : 0 ≤ (ji72)
                                · rw [if_pos c73] at H
                                  have c73b0 := eq_true c73
                                  have c73b1 : decide (0 ≤ (ji72)) = true := decide_eq_true c73
                                  clear c73
                                  by_cases c74 : (ji72) ≤ (x1_1.size : Int)
                                  · rw [if_pos c74] at H
                                    have c74b0 := eq_true c74
                                    have c74b1 : decide ((ji72) ≤ (x1_1.size : Int)) = true := decide_eq_true c74
                                    clear c74
                                    have H' := Aside0.mk H
                                    clear H
                                    go_wp2_with (first | ((with_reducible refine gate_callee (f := 63) rfl ?_); refine goesL_ (some 54) rfl rfl Tryz.func63 (by kernel_rfl) rfl #[.string x0_1] rfl (by (try simp only [List.map_toArray, List.map_cons, List.map_nil]); first | done | rfl | (simp only [List.length_drop, List.length_take]; rfl)) ?_; (with_reducible refine (utf8_DecodeLastRuneInString.calls x0_1 t233 t234 _ ?side1 A19.out).mono ?_); (case side1 => exact Laid.below HLD.out (by repeat (first | (with_reducible first | exact HB.out | apply below_alloc | apply pw_below_drewN | apply below_drew1) | exact HB.out))); rintro e w75 ⟨rfl, hb⟩; refine ⟨_, rfl, ?_⟩; have n0_ := Aside0.mk (below_step (by repeat (first | (with_reducible first | exact HB.out | apply below_alloc | apply pw_below_drewN | apply below_drew1) | exact HB.out)) hb); clear HB; have HB := n0_; clear n0_; (try clear hb); (try clear hb2); (try clear hk); (try clear hi)))
                                    go_roundg kj15
                                    case measure => have := HK1.out; have := HJ3.out; have := HJ7.out; have := HJ15.out; omega
                                    case rel => exact ⟨(x0_1.extract 0 ((ji69) : Int).toNat), (x1_1.extract 0 ((ji72) : Int).toNat), (x9_1), (by first | rfl | (simp; done) | (simp only [← hji69] <;> (first | rfl | (simp; done))) | (simp [*]; done) | (simp only [*]; done)), (by first | rfl | (simp; done) | (simp only [← hji72] <;> (first | rfl | (simp; done))) | (simp [*]; done) | (simp only [*]; done)), (by first | rfl | (simp; done) | (simp [*]; done)), H', ⟨by have := HK1.out; have := HJ3.out; have := HJ7.out; have := HJ15.out; omega⟩, ⟨by repeat (first | (with_reducible first | exact HB.out | apply below_alloc | apply pw_below_drewN | apply below_drew1) | exact HB.out)⟩⟩
                                  · rw [if_neg c74] at H
                                    exact absurd H (by simp)
                                · rw [if_neg c73] at H
                                  exact absurd H (by simp)
                              · rw [if_neg c71] at H
                                exact absurd H (by simp)
                            · rw [if_neg c70] at H
                              exact absurd H (by simp)
                          · rw [if_neg c68] at H
                            have c68b0 : (t231 == t233) = false := beq_eq_false_iff_ne.mpr c68
                            have c68b1 : (t231 != t233) = true := bne_iff_ne.mpr c68
                            simp only [Option.some.injEq, Prod.mk.injEq] at H
                            obtain ⟨rfl, rfl, rfl⟩ := H
                            go_wp2_with (first | ((with_reducible refine gate_callee (f := 63) rfl ?_); refine goesL_ (some 54) rfl rfl Tryz.func63 (by kernel_rfl) rfl #[.string x0_1] rfl (by (try simp only [List.map_toArray, List.map_cons, List.map_nil]); first | done | rfl | (simp only [List.length_drop, List.length_take]; rfl)) ?_; (with_reducible refine (utf8_DecodeLastRuneInString.calls x0_1 t233 t234 _ ?side1 A19.out).mono ?_); (case side1 => exact Laid.below HLD.out (by repeat (first | (with_reducible first | exact HB.out | apply below_alloc | apply pw_below_drewN | apply below_drew1) | exact HB.out))); rintro e w76 ⟨rfl, hb⟩; refine ⟨_, rfl, ?_⟩; have n0_ := Aside0.mk (below_step (by repeat (first | (with_reducible first | exact HB.out | apply below_alloc | apply pw_below_drewN | apply below_drew1) | exact HB.out)) hb); clear HB; have HB := n0_; clear n0_; (try clear hb); (try clear hb2); (try clear hk); (try clear hi)))
                            go_ret3
                            exact ⟨by first | rfl | (simp [errW_none, errW_some] <;> rfl) | (simp [*, errW_none, errW_some] <;> rfl), by repeat (first | (with_reducible first | exact HB.out | apply below_alloc | apply pw_below_drewN | apply below_drew1) | exact HB.out)⟩
          · replace c6 := Bool.eq_false_iff.mpr c6
            subst c6
            have H1 : (some (x0_1, x1_1, x9_1)) = some (r1, r2, r3) := by rw [if_neg (show ¬ (false = true) by decide)] at H; exact H
            clear H
            have H := H1
            clear H1
            simp only [Option.some.injEq, Prod.mk.injEq] at H
            obtain ⟨rfl, rfl, rfl⟩ := H
            go_wp2
            go_ret3
            exact ⟨by first | rfl | (simp [errW_none, errW_some] <;> rfl) | (simp [*, errW_none, errW_some] <;> rfl), by repeat (first | (with_reducible first | exact HB.out | apply below_alloc | apply pw_below_drewN | apply below_drew1) | exact HB.out)⟩

-- NOT PRINTED: function 39 (match_match)


/-! ### spec_shortOf: function 16 -/
def spec_shortOf.f (a0 : Int) : Option (Int × Bool) := if a0 = 8 then (some (98, true)) else (if a0 = 12 then (some (102, true)) else (if a0 = 10 then (some (110, true)) else (if a0 = 13 then (some (114, true)) else (if a0 = 9 then (some (116, true)) else (if a0 = 34 then (some (a0, true)) else (if a0 = 92 then (some (a0, true)) else (if a0 = 47 then (some (a0, true)) else (some (0, false)))))))))
set_option maxHeartbeats 8000000 in
set_option maxRecDepth 100000 in
theorem spec_shortOf.calls (a0 : Int) (r1 : Int) (r2 : Bool) (w : World) (h : spec_shortOf.f a0 = some (r1, r2)) :
    Calls Tryz.prog 16 #[.int .u8 a0] w fun e w' => e = .returned (.tuple #[.int .u8 r1, .bool r2]) ∧ Drawn0 w w' := by
  have H : (if a0 = 8 then (some (98, true)) else (if a0 = 12 then (some (102, true)) else (if a0 = 10 then (some (110, true)) else (if a0 = 13 then (some (114, true)) else (if a0 = 9 then (some (116, true)) else (if a0 = 34 then (some (a0, true)) else (if a0 = 92 then (some (a0, true)) else (if a0 = 47 then (some (a0, true)) else (some (0, false)))))))))) = some (r1, r2) := h
  clear h
  by_cases c2 : a0 = 8
  · rw [if_pos c2] at H
    have c2b0 : (a0 == 8) = true := beq_iff_eq.mpr c2
    have c2b1 : (a0 != 8) = false := bne_eq_false_iff_eq.mpr c2
    clear c2
    simp only [Option.some.injEq, Prod.mk.injEq] at H
    obtain ⟨rfl, rfl⟩ := H
    go_enter Tryz.func16, Tryz.ntmps16
    go_wp2
    go_ret2
    exact ⟨by first | rfl | (simp; done) | (simp [*]; done), by repeat (first | exact Drawn0.refl _ | apply Drawn0.step)⟩
  · rw [if_neg c2] at H
    have c2b0 : (a0 == 8) = false := beq_eq_false_iff_ne.mpr c2
    have c2b1 : (a0 != 8) = true := bne_iff_ne.mpr c2
    by_cases c3 : a0 = 12
    · rw [if_pos c3] at H
      have c3b0 : (a0 == 12) = true := beq_iff_eq.mpr c3
      have c3b1 : (a0 != 12) = false := bne_eq_false_iff_eq.mpr c3
      clear c3
      simp only [Option.some.injEq, Prod.mk.injEq] at H
      obtain ⟨rfl, rfl⟩ := H
      go_enter Tryz.func16, Tryz.ntmps16
      go_wp2
      go_ret2
      exact ⟨by first | rfl | (simp; done) | (simp [*]; done), by repeat (first | exact Drawn0.refl _ | apply Drawn0.step)⟩
    · rw [if_neg c3] at H
      have c3b0 : (a0 == 12) = false := beq_eq_false_iff_ne.mpr c3
      have c3b1 : (a0 != 12) = true := bne_iff_ne.mpr c3
      by_cases c4 : a0 = 10
      · rw [if_pos c4] at H
        have c4b0 : (a0 == 10) = true := beq_iff_eq.mpr c4
        have c4b1 : (a0 != 10) = false := bne_eq_false_iff_eq.mpr c4
        clear c4
        simp only [Option.some.injEq, Prod.mk.injEq] at H
        obtain ⟨rfl, rfl⟩ := H
        go_enter Tryz.func16, Tryz.ntmps16
        go_wp2
        go_ret2
        exact ⟨by first | rfl | (simp; done) | (simp [*]; done), by repeat (first | exact Drawn0.refl _ | apply Drawn0.step)⟩
      · rw [if_neg c4] at H
        have c4b0 : (a0 == 10) = false := beq_eq_false_iff_ne.mpr c4
        have c4b1 : (a0 != 10) = true := bne_iff_ne.mpr c4
        by_cases c5 : a0 = 13
        · rw [if_pos c5] at H
          have c5b0 : (a0 == 13) = true := beq_iff_eq.mpr c5
          have c5b1 : (a0 != 13) = false := bne_eq_false_iff_eq.mpr c5
          clear c5
          simp only [Option.some.injEq, Prod.mk.injEq] at H
          obtain ⟨rfl, rfl⟩ := H
          go_enter Tryz.func16, Tryz.ntmps16
          go_wp2
          go_ret2
          exact ⟨by first | rfl | (simp; done) | (simp [*]; done), by repeat (first | exact Drawn0.refl _ | apply Drawn0.step)⟩
        · rw [if_neg c5] at H
          have c5b0 : (a0 == 13) = false := beq_eq_false_iff_ne.mpr c5
          have c5b1 : (a0 != 13) = true := bne_iff_ne.mpr c5
          by_cases c6 : a0 = 9
          · rw [if_pos c6] at H
            have c6b0 : (a0 == 9) = true := beq_iff_eq.mpr c6
            have c6b1 : (a0 != 9) = false := bne_eq_false_iff_eq.mpr c6
            clear c6
            simp only [Option.some.injEq, Prod.mk.injEq] at H
            obtain ⟨rfl, rfl⟩ := H
            go_enter Tryz.func16, Tryz.ntmps16
            go_wp2
            go_ret2
            exact ⟨by first | rfl | (simp; done) | (simp [*]; done), by repeat (first | exact Drawn0.refl _ | apply Drawn0.step)⟩
          · rw [if_neg c6] at H
            have c6b0 : (a0 == 9) = false := beq_eq_false_iff_ne.mpr c6
            have c6b1 : (a0 != 9) = true := bne_iff_ne.mpr c6
            by_cases c7 : a0 = 34
            · rw [if_pos c7] at H
              have c7b0 : (a0 == 34) = true := beq_iff_eq.mpr c7
              have c7b1 : (a0 != 34) = false := bne_eq_false_iff_eq.mpr c7
              clear c7
              simp only [Option.some.injEq, Prod.mk.injEq] at H
              obtain ⟨rfl, rfl⟩ := H
              go_enter Tryz.func16, Tryz.ntmps16
              go_wp2
              go_ret2
              exact ⟨by first | rfl | (simp; done) | (simp [*]; done), by repeat (first | exact Drawn0.refl _ | apply Drawn0.step)⟩
            · rw [if_neg c7] at H
              have c7b0 : (a0 == 34) = false := beq_eq_false_iff_ne.mpr c7
              have c7b1 : (a0 != 34) = true := bne_iff_ne.mpr c7
              by_cases c8 : a0 = 92
              · rw [if_pos c8] at H
                have c8b0 : (a0 == 92) = true := beq_iff_eq.mpr c8
                have c8b1 : (a0 != 92) = false := bne_eq_false_iff_eq.mpr c8
                clear c8
                simp only [Option.some.injEq, Prod.mk.injEq] at H
                obtain ⟨rfl, rfl⟩ := H
                go_enter Tryz.func16, Tryz.ntmps16
                go_wp2
                go_ret2
                exact ⟨by first | rfl | (simp; done) | (simp [*]; done), by repeat (first | exact Drawn0.refl _ | apply Drawn0.step)⟩
              · rw [if_neg c8] at H
                have c8b0 : (a0 == 92) = false := beq_eq_false_iff_ne.mpr c8
                have c8b1 : (a0 != 92) = true := bne_iff_ne.mpr c8
                by_cases c9 : a0 = 47
                · rw [if_pos c9] at H
                  have c9b0 : (a0 == 47) = true := beq_iff_eq.mpr c9
                  have c9b1 : (a0 != 47) = false := bne_eq_false_iff_eq.mpr c9
                  clear c9
                  simp only [Option.some.injEq, Prod.mk.injEq] at H
                  obtain ⟨rfl, rfl⟩ := H
                  go_enter Tryz.func16, Tryz.ntmps16
                  go_wp2
                  go_ret2
                  exact ⟨by first | rfl | (simp; done) | (simp [*]; done), by repeat (first | exact Drawn0.refl _ | apply Drawn0.step)⟩
                · rw [if_neg c9] at H
                  have c9b0 : (a0 == 47) = false := beq_eq_false_iff_ne.mpr c9
                  have c9b1 : (a0 != 47) = true := bne_iff_ne.mpr c9
                  simp only [Option.some.injEq, Prod.mk.injEq] at H
                  obtain ⟨rfl, rfl⟩ := H
                  go_enter Tryz.func16, Tryz.ntmps16
                  go_wp2
                  go_ret2
                  exact ⟨by first | rfl | (simp; done) | (simp [*]; done), by repeat (first | exact Drawn0.refl _ | apply Drawn0.step)⟩


/-! ### spec_digitOf: function 17 -/
def spec_digitOf.f (a0 : Int) (a1 : Bool) : Option (Int) := if a0 < 10 then (some ((wrap64 (48 + a0)) % 256)) else (if a1 = true then (some ((wrap64 ((wrap64 (65 + a0)) - 10)) % 256)) else (some ((wrap64 ((wrap64 (97 + a0)) - 10)) % 256)))
set_option maxHeartbeats 8000000 in
set_option maxRecDepth 100000 in
theorem spec_digitOf.calls (a0 : Int) (a1 : Bool) (r : Int) (w : World) (h : spec_digitOf.f a0 a1 = some r) :
    Calls Tryz.prog 17 #[.int .i64 a0, .bool a1] w fun e w' => e = .returned (.int .u8 r) ∧ Drawn0 w w' := by
  have H : (if a0 < 10 then (some ((wrap64 (48 + a0)) % 256)) else (if a1 = true then (some ((wrap64 ((wrap64 (65 + a0)) - 10)) % 256)) else (some ((wrap64 ((wrap64 (97 + a0)) - 10)) % 256)))) = some r := h
  clear h
  by_cases c3 : a0 < 10
  · rw [if_pos c3] at H
    have c3b0 : decide (a0 < 10) = true := decide_eq_true c3
    clear c3
    obtain rfl := Option.some.inj H
    go_enter Tryz.func17, Tryz.ntmps17
    go_wp2
    go_ret
    exact ⟨by first | rfl | (simp; done) | (simp [*]; done), by repeat (first | exact Drawn0.refl _ | apply Drawn0.step)⟩
  · rw [if_neg c3] at H
    have c3b0 : decide (a0 < 10) = false := decide_eq_false c3
    clear c3
    by_cases c4 : a1 = true
    · subst c4
      have H1 : (some ((wrap64 ((wrap64 (65 + a0)) - 10)) % 256)) = some r := by rw [if_pos rfl] at H; exact H
      clear H
      have H := H1
      clear H1
      obtain rfl := Option.some.inj H
      go_enter Tryz.func17, Tryz.ntmps17
      go_wp2
      go_ret
      exact ⟨by first | rfl | (simp; done) | (simp [*]; done), by repeat (first | exact Drawn0.refl _ | apply Drawn0.step)⟩
    · replace c4 := Bool.eq_false_iff.mpr c4
      subst c4
      have H1 : (some ((wrap64 ((wrap64 (97 + a0)) - 10)) % 256)) = some r := by rw [if_neg (show ¬ (false = true) by decide)] at H; exact H
      clear H
      have H := H1
      clear H1
      obtain rfl := Option.some.inj H
      go_enter Tryz.func17, Tryz.ntmps17
      go_wp2
      go_ret
      exact ⟨by first | rfl | (simp; done) | (simp [*]; done), by repeat (first | exact Drawn0.refl _ | apply Drawn0.step)⟩


/-! ### spec_Quote: function 11 -/
mutual
def spec_Quote.l0 : Nat → ByteArray → List Int → Int → Option (ByteArray)
  | 0, _, _, _ => none
  | k + 1, x0, x3, x4 => if x4 < (x0.size : Int) then (if 0 ≤ x4 then ((spec_shortOf.f (bt x0 x4)).bind fun bt331 => (if bt331.2 = true then (spec_Quote.j1 k x0 x3 x4 (bt x0 x4) bt331.1 ((bt x0 x4) != 47)) else (spec_Quote.j1 k x0 x3 x4 (bt x0 x4) bt331.1 false))) else (none)) else (if x3.length < 140737488355328 then (some (strOfNums (x3 ++ [34]))) else (none))
def spec_Quote.j1 : Nat → ByteArray → List Int → Int → Int → Int → Bool → Option (ByteArray)
  | 0, _, _, _, _, _, _ => none
  | k + 1, x0, x3, x4, x5, x6, x27 => if x27 = true then ((some (([92, x6] : List Int) : List Int)).bind fun y333 => (if x3.length + y333.length < 140737488355328 then (spec_Quote.l0 k x0 (x3 ++ y333) (wrap64 (x4 + 1))) else (none))) else (if x5 < 32 then ((spec_digitOf.f (wrap64 (Int.tmod x5 16)) false).bind fun t339 => ((some (([92, 117, 48, 48, (48 + ((Int.tdiv x5 16) % 256)) % 256, t339] : List Int) : List Int)).bind fun y340 => (if x3.length + y340.length < 140737488355328 then (spec_Quote.l0 k x0 (x3 ++ y340) (wrap64 (x4 + 1))) else (none)))) else (if x3.length < 140737488355328 then (spec_Quote.l0 k x0 (x3 ++ [x5]) (wrap64 (x4 + 1))) else (none)))
end
def spec_Quote.f (k : Nat) (a0 : ByteArray) : Option (ByteArray) := spec_Quote.l0 k a0 (([34] : List Int)) 0
theorem spec_Quote.mono_l : ∀ k, (∀ y0 y1 y2, LeO (spec_Quote.l0 k y0 y1 y2) (spec_Quote.l0 (k + 1) y0 y1 y2)) ∧ (∀ y0 y1 y2 y3 y4 y5, LeO (spec_Quote.j1 k y0 y1 y2 y3 y4 y5) (spec_Quote.j1 (k + 1) y0 y1 y2 y3 y4 y5))
  | 0 => ⟨fun _ _ _ r h => by simp [spec_Quote.l0] at h, fun _ _ _ _ _ _ r h => by simp [spec_Quote.j1] at h⟩
  | k + 1 => by
    obtain ⟨ih0, ih1⟩ := spec_Quote.mono_l k
    refine ⟨?_, ?_⟩
    · intro y0 y1 y2
      unfold spec_Quote.l0
      repeat' first
      | (with_reducible exact ih0 _ _ _)
      | (with_reducible exact ih1 _ _ _ _ _ _)
      | (with_reducible exact LeO.refl _)
      | (with_reducible exact LeO.none _)
      | (with_reducible refine LeO.ite ?_ ?_)
      | (with_reducible refine LeO.bind ?_ (fun _ => ?_))
      | exact ih0 _ _ _
      | exact ih1 _ _ _ _ _ _
      | exact LeO.none _
      | refine LeO.ite ?_ ?_
      | refine LeO.bind ?_ (fun _ => ?_)
    · intro y0 y1 y2 y3 y4 y5
      unfold spec_Quote.j1
      repeat' first
      | (with_reducible exact ih0 _ _ _)
      | (with_reducible exact ih1 _ _ _ _ _ _)
      | (with_reducible exact LeO.refl _)
      | (with_reducible exact LeO.none _)
      | (with_reducible refine LeO.ite ?_ ?_)
      | (with_reducible refine LeO.bind ?_ (fun _ => ?_))
      | exact ih0 _ _ _
      | exact ih1 _ _ _ _ _ _
      | exact LeO.none _
      | refine LeO.ite ?_ ?_
      | refine LeO.bind ?_ (fun _ => ?_)
theorem spec_Quote.mono : ∀ a0 k, LeO (spec_Quote.f k a0) (spec_Quote.f (k + 1) a0) := by
  intro a0 k
  obtain ⟨ih0, ih1⟩ := spec_Quote.mono_l k
  unfold spec_Quote.f
  repeat' first
      | (with_reducible exact ih0 _ _ _)
      | (with_reducible exact ih1 _ _ _ _ _ _)
      | (with_reducible exact LeO.refl _)
      | (with_reducible exact LeO.none _)
      | (with_reducible refine LeO.ite ?_ ?_)
      | (with_reducible refine LeO.bind ?_ (fun _ => ?_))
      | exact ih0 _ _ _
      | exact ih1 _ _ _ _ _ _
      | exact LeO.none _
      | refine LeO.ite ?_ ?_
      | refine LeO.bind ?_ (fun _ => ?_)
set_option maxHeartbeats 8000000 in
set_option maxRecDepth 100000 in
theorem spec_Quote.calls (k : Nat) (a0 : ByteArray) (r : ByteArray) (w : World) (h : spec_Quote.f k a0 = some r) :
    Calls Tryz.prog 11 #[.string a0] w fun e w' => e = .returned (.string r) ∧ Below w.heap.size w w' := by
  have HB := Aside0.mk (Below.refl w.heap.size w)
  have H : (spec_Quote.l0 k a0 (([34] : List Int)) 0) = some r := h
  clear h
  obtain ⟨y325, hy325⟩ : ∃ y_ : List Int, y_ = (([34] : List Int)) := ⟨_, rfl⟩
  replace H : (spec_Quote.l0 k a0 y325 0) = some r := by first | (rw [hy325]; with_reducible exact H) | (have H2_ := (Option.bind_some _ _).symm.trans H; rw [hy325]; with_reducible exact H2_) | (have H2_ := (Option.bind_some _ _).symm.trans H; with_reducible exact H2_) | with_reducible exact H | (rw [hy325]; exact H) | exact H
  have Ny325 := Aside0.mk hy325
  clear hy325
  have H' := Aside0.mk H
  clear H
  go_enter Tryz.func11, Tryz.ntmps11
  go_wp2_with (first | ((with_reducible refine gate_dst (N := 8) rfl ?_); refine Kd.R_lit (Kd.int .u8) _ 5 ?hg (N := 8) ?hd (xs := ([34] : List Int)) (inner := [.int .u8 34]) (ok := fun _ => True) (okp := fun _ => True) ?hr ?hp (fun _ hk => hk) trivial (Below.refl _ _) (Nat.le_refl _) (by simp) ?_; (case hd => rfl); (case hg => rfl); (case hr => first | (go_simp; done) | (go_simp; rfl)); (case hp => exact (Reps.one (show Kd.M (Kd.int .u8) _ _ _ 34 [.int .u8 34] from rfl) (Reps.none _ _))); intro v326 w2 ho3 hb hg_ hnew_; clear hg_ hnew_; (first | rw [← Ny325.out] at ho3 | (simp only [Int.reduceToNat] at ho3; rw [← Ny325.out] at ho3)); have n0_ := Aside0.mk (Kd.R_lower ho3 (below_size (by repeat (first | (with_reducible first | exact HB.out | apply below_alloc | apply pw_below_drewN | apply below_drew1) | exact HB.out)))); have n1_ := Aside0.mk (below_step (by repeat (first | (with_reducible first | exact HB.out | apply below_alloc | apply pw_below_drewN | apply below_drew1) | exact HB.out)) hb); clear HB; have HO327 := n0_; have HB := n1_; clear n0_ n1_; clear hb ho3))
  (try simp only [Act.put, List.setIfInBounds_toArray, List.set_cons_zero, List.set_cons_succ])
  go_loopg [3, 4] k (fun kq v3 v4 w' => ∃ (x3_1 : List Int) (x4_1 : Int), v4 = .int .i64 x4_1 ∧ Aside0 (spec_Quote.l0 kq a0 x3_1 x4_1 = some r) ∧ Aside0 (kq ≤ k) ∧ Aside0 (Kd.R (Kd.int .u8) 5 w' w.heap.size (fun _ => True) v3 x3_1) ∧ Aside0 (Below w.heap.size w w'))
  case atStart => exact ⟨(y325), (0), (by first | rfl | (simp; done) | (simp [*]; done)), H', ⟨Nat.le_refl _⟩, ⟨by (with_reducible repeat (first | apply Kd.R_alloc | apply Kd.R_drewN | apply Kd.R_drew)); exact HO327.out⟩, ⟨by repeat (first | (with_reducible first | exact HB.out | apply below_alloc | apply pw_below_drewN | apply below_drew1) | exact HB.out)⟩⟩
  case round =>
    clear H'
    try clear c1
    try clear p2
    obtain ⟨x3_1, x4_1, rfl, HA, HK1, HO_3, HB⟩ := hrel
    cases gk with
    | zero => exact absurd HA.out (by simp [spec_Quote.l0])
    | succ k1 =>
      have H := HA.out
      clear HA
      simp only [spec_Quote.l0] at H
      by_cases c4 : x4_1 < (a0.size : Int)
      · rw [if_pos c4] at H
        have c4b0 : decide (x4_1 < (a0.size : Int)) = true := decide_eq_true c4
        clear c4
        by_cases c5 : 0 ≤ x4_1
        · rw [if_pos c5] at H
          have c5b0 : decide (0 ≤ x4_1) = true := decide_eq_true c5
          clear c5
          replace H := Option.bind_eq_some_iff.mp H
          obtain ⟨⟨t331, t332⟩, A70, H⟩ := H
          replace H : (if t332 = true then (spec_Quote.j1 k1 a0 x3_1 x4_1 (bt a0 x4_1) t331 ((bt a0 x4_1) != 47)) else (spec_Quote.j1 k1 a0 x3_1 x4_1 (bt a0 x4_1) t331 false)) = some r := H
          have A7 := Aside0.mk A70
          clear A70
          have HC8 := Aside0.mk H
          clear H
          have p6 : 0 ≤ (x4_1 : Int) := of_decide_eq_true (by first | (with_reducible assumption) | assumption)
          have q6 : x4_1 < (a0.size : Int) := of_decide_eq_true (by first | (with_reducible assumption) | assumption)
          have hx6 := bt_at a0 x4_1
          replace p6 := eq_true p6
          replace q6 := eq_true q6
          go_upto_region 8 with (first | ((with_reducible refine gate_callee (f := 16) rfl ?_); refine goesL_ (some 20) rfl rfl Tryz.func16 (by kernel_rfl) rfl #[.int .u8 (bt a0 x4_1)] rfl (by (try simp only [List.map_toArray, List.map_cons, List.map_nil]); first | done | rfl | (simp only [List.length_drop, List.length_take]; rfl)) ?_; (with_reducible refine (spec_shortOf.calls (bt a0 x4_1) t331 t332 _ A7.out).mono ?_); rintro e w' ⟨rfl, ⟨nd, rfl⟩⟩; refine ⟨_, rfl, ?_⟩))
          (try simp only [Act.put, List.setIfInBounds_toArray, List.set_cons_zero, List.set_cons_succ])
          go_cut [27] (fun v27 wc => ∃ (kq : Nat) (x27_7 : Bool), v27 = .bool x27_7 ∧ Aside0 (spec_Quote.j1 kq a0 x3_1 x4_1 (bt a0 x4_1) t331 x27_7 = some r) ∧ Aside0 (kq ≤ k1) ∧ Aside0 (Kd.R (Kd.int .u8) 5 wc w.heap.size (fun _ => True) u3 x3_1) ∧ Aside0 (Below w.heap.size w wc))
          case first =>
            have H := HC8.out
            clear HC8
            by_cases c9 : t332 = true
            · subst c9
              have H1 : (spec_Quote.j1 k1 a0 x3_1 x4_1 (bt a0 x4_1) t331 ((bt a0 x4_1) != 47)) = some r := by rw [if_pos rfl] at H; exact H
              clear H
              have H := H1
              clear H1
              have H' := Aside0.mk H
              clear H
              go_wp2
              (first | go_meet)
              case rel => exact ⟨_, (((bt a0 x4_1) != 47)), (by first | rfl | (simp; done) | (simp [*]; done)), H', ⟨by have := HK1.out; first | omega | exact Nat.le_refl _⟩, ⟨by (with_reducible repeat (first | apply Kd.R_alloc | apply Kd.R_drewN | apply Kd.R_drew)); exact HO_3.out⟩, ⟨by repeat (first | (with_reducible first | exact HB.out | apply below_alloc | apply pw_below_drewN | apply below_drew1) | exact HB.out)⟩⟩
            · replace c9 := Bool.eq_false_iff.mpr c9
              subst c9
              have H1 : (spec_Quote.j1 k1 a0 x3_1 x4_1 (bt a0 x4_1) t331 false) = some r := by rw [if_neg (show ¬ (false = true) by decide)] at H; exact H
              clear H
              have H := H1
              clear H1
              have H' := Aside0.mk H
              clear H
              go_wp2
              (first | go_meet)
              case rel => exact ⟨_, (false), (by first | rfl | (simp; done) | (simp [*]; done)), H', ⟨by have := HK1.out; first | omega | exact Nat.le_refl _⟩, ⟨by (with_reducible repeat (first | apply Kd.R_alloc | apply Kd.R_drewN | apply Kd.R_drew)); exact HO_3.out⟩, ⟨by repeat (first | (with_reducible first | exact HB.out | apply below_alloc | apply pw_below_drewN | apply below_drew1) | exact HB.out)⟩⟩
          case rest =>
            clear HC8
            try clear c1
            try clear p2
            try clear c4
            try clear c4b0
            try clear c5
            try clear c5b0
            try clear p6
            try clear q6
            try clear hx6
            try clear c9
            try clear p2
            try clear p6
            try clear q6
            obtain ⟨kq, x27_7, rfl, HA, HJ7, HO_3, HB⟩ := hcut
            cases kq with
            | zero => exact absurd HA.out (by simp [spec_Quote.j1])
            | succ kj7 =>
              have H := HA.out
              clear HA
              simp only [spec_Quote.j1] at H
              by_cases c10 : x27_7 = true
              · subst c10
                have H1 : ((some (([92, t331] : List Int) : List Int)).bind fun y333 => (if x3_1.length + y333.length < 140737488355328 then (spec_Quote.l0 kj7 a0 (x3_1 ++ y333) (wrap64 (x4_1 + 1))) else (none))) = some r := by rw [if_pos rfl] at H; exact H
                clear H
                have H := H1
                clear H1
                obtain ⟨y333, hy333⟩ : ∃ y_ : List Int, y_ = (([92, t331] : List Int)) := ⟨_, rfl⟩
                replace H : (if x3_1.length + y333.length < 140737488355328 then (spec_Quote.l0 kj7 a0 (x3_1 ++ y333) (wrap64 (x4_1 + 1))) else (none)) = some r := by first | (rw [hy333]; with_reducible exact H) | (have H2_ := (Option.bind_some _ _).symm.trans H; rw [hy333]; with_reducible exact H2_) | (have H2_ := (Option.bind_some _ _).symm.trans H; with_reducible exact H2_) | with_reducible exact H | (rw [hy333]; exact H) | exact H
                have Ny333 := Aside0.mk hy333
                clear hy333
                by_cases c11 : x3_1.length + y333.length < 140737488355328
                · rw [if_pos c11] at H
                  have LMc11 := Aside0.mk c11
                  clear c11
                  obtain ⟨y336, hy336⟩ : ∃ y_ : List Int, y_ = (x3_1 ++ y333) := ⟨_, rfl⟩
                  replace H : (spec_Quote.l0 kj7 a0 y336 (wrap64 (x4_1 + 1))) = some r := by first | (rw [hy336]; with_reducible exact H) | (have H2_ := (Option.bind_some _ _).symm.trans H; rw [hy336]; with_reducible exact H2_) | (have H2_ := (Option.bind_some _ _).symm.trans H; with_reducible exact H2_) | with_reducible exact H | (rw [hy336]; exact H) | exact H
                  have Ny336 := Aside0.mk hy336
                  clear hy336
                  have H' := Aside0.mk H
                  clear H
                  go_wp2_with (first | ((with_reducible refine gate_dst (N := 35) rfl ?_); refine Kd.R_lit (Kd.int .u8) _ 5 ?hg (N := 35) ?hd (xs := ([92, t331] : List Int)) (inner := [.int .u8 92, .int .u8 t331]) (ok := fun _ => True) (okp := fun _ => True) ?hr ?hp (fun _ hk => hk) trivial (Below.refl _ _) (Nat.le_refl _) (by simp) ?_; (case hd => rfl); (case hg => rfl); (case hr => first | (go_simp; done) | (go_simp; rfl)); (case hp => exact (Reps.one (show Kd.M (Kd.int .u8) _ _ _ 92 [.int .u8 92] from rfl) (Reps.one (show Kd.M (Kd.int .u8) _ _ _ t331 [.int .u8 t331] from rfl) (Reps.none _ _)))); intro v334 w12 ho13 hb hg_ hnew_; clear hg_ hnew_; (first | rw [← Ny333.out] at ho13 | (simp only [Int.reduceToNat] at ho13; rw [← Ny333.out] at ho13)); have n0_ := Aside0.mk (Kd.R_elder' (by (with_reducible repeat (first | apply Kd.R_alloc | apply Kd.R_drewN | apply Kd.R_drew)); exact HO_3.out) (Kd.R_base ho13) hb); have n1_ := Aside0.mk (Kd.R_lower (Kd.R_new' ho13 (Kd.R_lt (by (with_reducible repeat (first | apply Kd.R_alloc | apply Kd.R_drewN | apply Kd.R_drew)); exact HO_3.out))) (below_size (by repeat (first | (with_reducible first | exact HB.out | apply below_alloc | apply pw_below_drewN | apply below_drew1) | exact HB.out)))); have n2_ := Aside0.mk (below_step (by repeat (first | (with_reducible first | exact HB.out | apply below_alloc | apply pw_below_drewN | apply below_drew1) | exact HB.out)) hb); clear HO_3; clear HB; have HO_3 := n0_; have HO335 := n1_; have HB := n2_; clear n0_ n1_ n2_; clear hb ho13; obtain ⟨Ao15, co15, eo15⟩ := Kd.R_slice HO335.out; subst eo15) | ((with_reducible refine gate_builtin (b := .append) (xs := #[.tmp 33, .tmp 35]) rfl ?_); at_builtin; refine Kd.R_append_rows (Kd.int .u8) (w0 := w) w.heap.size rfl (.tmp 33) (.tmp 35) 49 5 (.int .u8 0) 1 rfl Tryz.underlying49 info5 rfl (by decide) (by omega) u3 x3_1 y333 _ _ _ (fun k_ => some k_ ≠ (.slice Ao15 y333.length co15 : Value).ownBlock) (fun _ => False) rfl rfl ?aO ?aR (fun _ _ h => h) (fun _ h => h.elim) ?aF ?aB ?aS ?aL ?_; (case aR => repeat (first | exact (Kd.R_reads' HO335.out).2.2 | (with_reducible refine Kd.C_alloc ?_ _) | (with_reducible refine Kd.C_drewN ?_ _) | (with_reducible refine Kd.C_drew ?_))); (case aB => exact (by repeat (first | (with_reducible first | exact HB.out | apply below_alloc | apply pw_below_drewN | apply below_drew1) | exact HB.out))); (case aF => exact (fun k_ hk => Kd.fresh' (Kd.R_lt (by (with_reducible repeat (first | apply Kd.R_alloc | apply Kd.R_drewN | apply Kd.R_drew)); exact HO335.out)) k_ hk)); (case aO => exact (by (with_reducible repeat (first | apply Kd.R_alloc | apply Kd.R_drewN | apply Kd.R_drew)); exact Kd.R_mono HO_3.out (fun _ hk => hk.2))); (case aS => exact (below_size (by repeat (first | (with_reducible first | exact HB.out | apply below_alloc | apply pw_below_drewN | apply below_drew1) | exact HB.out)))); (case aL => have := LMc11.out; omega); intro v337 w14 ho hb hg hat; rw [← Ny336.out] at ho; have n0_ := Aside0.mk (Kd.R_after (ok := (fun _ => True)) (by (with_reducible repeat (first | apply Kd.R_alloc | apply Kd.R_drewN | apply Kd.R_drew)); exact HO335.out) hg hat); have n1_ := Aside0.mk (hb); have n2_ := Aside0.mk (ho); clear HO335; clear HB; clear HO_3; have HO335 := n0_; have HB := n1_; have HO338 := n2_; clear n0_ n1_ n2_; clear ho hb hg hat))
                  go_roundg kj7
                  case measure => have := HK1.out; have := HJ7.out; omega
                  case rel => exact ⟨(y336), (wrap64 (x4_1 + 1)), (by first | rfl | (simp; done) | (simp [*]; done)), H', ⟨by have := HK1.out; have := HJ7.out; omega⟩, ⟨by (with_reducible repeat (first | apply Kd.R_alloc | apply Kd.R_drewN | apply Kd.R_drew)); exact Kd.R_mono HO338.out (fun _ hk => trivial)⟩, ⟨by repeat (first | (with_reducible first | exact HB.out | apply below_alloc | apply pw_below_drewN | apply below_drew1) | exact HB.out)⟩⟩
                · rw [if_neg c11] at H
                  exact absurd H (by simp)
              · replace c10 := Bool.eq_false_iff.mpr c10
                subst c10
                have H1 : (if (bt a0 x4_1) < 32 then ((spec_digitOf.f (wrap64 (Int.tmod (bt a0 x4_1) 16)) false).bind fun t339 => ((some (([92, 117, 48, 48, (48 + ((Int.tdiv (bt a0 x4_1) 16) % 256)) % 256, t339] : List Int) : List Int)).bind fun y340 => (if x3_1.length + y340.length < 140737488355328 then (spec_Quote.l0 kj7 a0 (x3_1 ++ y340) (wrap64 (x4_1 + 1))) else (none)))) else (if x3_1.length < 140737488355328 then (spec_Quote.l0 kj7 a0 (x3_1 ++ [(bt a0 x4_1)]) (wrap64 (x4_1 + 1))) else (none))) = some r := by rw [if_neg (show ¬ (false = true) by decide)] at H; exact H
                clear H
                have H := H1
                clear H1
                by_cases c16 : (bt a0 x4_1) < 32
                · rw [if_pos c16] at H
                  have c16b0 : decide ((bt a0 x4_1) < 32) = true := decide_eq_true c16
                  clear c16
                  replace H := Option.bind_eq_some_iff.mp H
                  obtain ⟨t339, A170, H⟩ := H
                  replace H : ((some (([92, 117, 48, 48, (48 + ((Int.tdiv (bt a0 x4_1) 16) % 256)) % 256, t339] : List Int) : List Int)).bind fun y340 => (if x3_1.length + y340.length < 140737488355328 then (spec_Quote.l0 kj7 a0 (x3_1 ++ y340) (wrap64 (x4_1 + 1))) else (none))) = some r := H
                  have A17 := Aside0.mk A170
                  clear A170
                  obtain ⟨y340, hy340⟩ : ∃ y_ : List Int, y_ = (([92, 117, 48, 48, (48 + ((Int.tdiv (bt a0 x4_1) 16) % 256)) % 256, t339] : List Int)) := ⟨_, rfl⟩
                  replace H : (if x3_1.length + y340.length < 140737488355328 then (spec_Quote.l0 kj7 a0 (x3_1 ++ y340) (wrap64 (x4_1 + 1))) else (none)) = some r := by first | (rw [hy340]; with_reducible exact H) | (have H2_ := (Option.bind_some _ _).symm.trans H; rw [hy340]; with_reducible exact H2_) | (have H2_ := (Option.bind_some _ _).symm.trans H; with_reducible exact H2_) | with_reducible exact H | (rw [hy340]; exact H) | exact H
                  have Ny340 := Aside0.mk hy340
                  clear hy340
                  by_cases c18 : x3_1.length + y340.length < 140737488355328
                  · rw [if_pos c18] at H
                    have LMc18 := Aside0.mk c18
                    clear c18
                    obtain ⟨y343, hy343⟩ : ∃ y_ : List Int, y_ = (x3_1 ++ y340) := ⟨_, rfl⟩
                    replace H : (spec_Quote.l0 kj7 a0 y343 (wrap64 (x4_1 + 1))) = some r := by first | (rw [hy343]; with_reducible exact H) | (have H2_ := (Option.bind_some _ _).symm.trans H; rw [hy343]; with_reducible exact H2_) | (have H2_ := (Option.bind_some _ _).symm.trans H; with_reducible exact H2_) | with_reducible exact H | (rw [hy343]; exact H) | exact H
                    have Ny343 := Aside0.mk hy343
                    clear hy343
                    have H' := Aside0.mk H
                    clear H
                    go_wp2_with (first | ((with_reducible refine gate_callee (f := 17) rfl ?_); refine goesL_ (some 47) rfl rfl Tryz.func17 (by kernel_rfl) rfl #[.int .i64 (wrap64 (Int.tmod (bt a0 x4_1) 16)), .bool false] rfl (by (try simp only [List.map_toArray, List.map_cons, List.map_nil]); first | done | rfl | (simp only [List.length_drop, List.length_take]; rfl)) ?_; (with_reducible refine (spec_digitOf.calls (wrap64 (Int.tmod (bt a0 x4_1) 16)) false t339 _ A17.out).mono ?_); rintro e w' ⟨rfl, ⟨nd, rfl⟩⟩; refine ⟨_, rfl, ?_⟩) | ((with_reducible refine gate_dst (N := 48) rfl ?_); refine Kd.R_lit (Kd.int .u8) _ 5 ?hg (N := 48) ?hd (xs := ([92, 117, 48, 48, (48 + ((Int.tdiv (bt a0 x4_1) 16) % 256)) % 256, t339] : List Int)) (inner := [.int .u8 92, .int .u8 117, .int .u8 48, .int .u8 48, .int .u8 ((48 + ((Int.tdiv (bt a0 x4_1) 16) % 256)) % 256), .int .u8 t339]) (ok := fun _ => True) (okp := fun _ => True) ?hr ?hp (fun _ hk => hk) trivial (Below.refl _ _) (Nat.le_refl _) (by simp) ?_; (case hd => rfl); (case hg => rfl); (case hr => first | (go_simp; done) | (go_simp; rfl)); (case hp => exact (Reps.one (show Kd.M (Kd.int .u8) _ _ _ 92 [.int .u8 92] from rfl) (Reps.one (show Kd.M (Kd.int .u8) _ _ _ 117 [.int .u8 117] from rfl) (Reps.one (show Kd.M (Kd.int .u8) _ _ _ 48 [.int .u8 48] from rfl) (Reps.one (show Kd.M (Kd.int .u8) _ _ _ 48 [.int .u8 48] from rfl) (Reps.one (show Kd.M (Kd.int .u8) _ _ _ ((48 + ((Int.tdiv (bt a0 x4_1) 16) % 256)) % 256) [.int .u8 ((48 + ((Int.tdiv (bt a0 x4_1) 16) % 256)) % 256)] from rfl) (Reps.one (show Kd.M (Kd.int .u8) _ _ _ t339 [.int .u8 t339] from rfl) (Reps.none _ _)))))))); intro v341 w19 ho20 hb hg_ hnew_; clear hg_ hnew_; (first | rw [← Ny340.out] at ho20 | (simp only [Int.reduceToNat] at ho20; rw [← Ny340.out] at ho20)); have n0_ := Aside0.mk (Kd.R_elder' (by (with_reducible repeat (first | apply Kd.R_alloc | apply Kd.R_drewN | apply Kd.R_drew)); exact HO_3.out) (Kd.R_base ho20) hb); have n1_ := Aside0.mk (Kd.R_lower (Kd.R_new' ho20 (Kd.R_lt (by (with_reducible repeat (first | apply Kd.R_alloc | apply Kd.R_drewN | apply Kd.R_drew)); exact HO_3.out))) (below_size (by repeat (first | (with_reducible first | exact HB.out | apply below_alloc | apply pw_below_drewN | apply below_drew1) | exact HB.out)))); have n2_ := Aside0.mk (below_step (by repeat (first | (with_reducible first | exact HB.out | apply below_alloc | apply pw_below_drewN | apply below_drew1) | exact HB.out)) hb); clear HO_3; clear HB; have HO_3 := n0_; have HO342 := n1_; have HB := n2_; clear n0_ n1_ n2_; clear hb ho20; obtain ⟨Ao22, co22, eo22⟩ := Kd.R_slice HO342.out; subst eo22) | ((with_reducible refine gate_builtin (b := .append) (xs := #[.tmp 40, .tmp 48]) rfl ?_); at_builtin; refine Kd.R_append_rows (Kd.int .u8) (w0 := w) w.heap.size rfl (.tmp 40) (.tmp 48) 49 5 (.int .u8 0) 1 rfl Tryz.underlying49 info5 rfl (by decide) (by omega) u3 x3_1 y340 _ _ _ (fun k_ => some k_ ≠ (.slice Ao22 y340.length co22 : Value).ownBlock) (fun _ => False) rfl rfl ?aO ?aR (fun _ _ h => h) (fun _ h => h.elim) ?aF ?aB ?aS ?aL ?_; (case aR => repeat (first | exact (Kd.R_reads' HO342.out).2.2 | (with_reducible refine Kd.C_alloc ?_ _) | (with_reducible refine Kd.C_drewN ?_ _) | (with_reducible refine Kd.C_drew ?_))); (case aB => exact (by repeat (first | (with_reducible first | exact HB.out | apply below_alloc | apply pw_below_drewN | apply below_drew1) | exact HB.out))); (case aF => exact (fun k_ hk => Kd.fresh' (Kd.R_lt (by (with_reducible repeat (first | apply Kd.R_alloc | apply Kd.R_drewN | apply Kd.R_drew)); exact HO342.out)) k_ hk)); (case aO => exact (by (with_reducible repeat (first | apply Kd.R_alloc | apply Kd.R_drewN | apply Kd.R_drew)); exact Kd.R_mono HO_3.out (fun _ hk => hk.2))); (case aS => exact (below_size (by repeat (first | (with_reducible first | exact HB.out | apply below_alloc | apply pw_below_drewN | apply below_drew1) | exact HB.out)))); (case aL => have := LMc18.out; omega); intro v344 w21 ho hb hg hat; rw [← Ny343.out] at ho; have n0_ := Aside0.mk (Kd.R_after (ok := (fun _ => True)) (by (with_reducible repeat (first | apply Kd.R_alloc | apply Kd.R_drewN | apply Kd.R_drew)); exact HO342.out) hg hat); have n1_ := Aside0.mk (hb); have n2_ := Aside0.mk (ho); clear HO342; clear HB; clear HO_3; have HO342 := n0_; have HB := n1_; have HO345 := n2_; clear n0_ n1_ n2_; clear ho hb hg hat))
                    go_roundg kj7
                    case measure => have := HK1.out; have := HJ7.out; omega
                    case rel => exact ⟨(y343), (wrap64 (x4_1 + 1)), (by first | rfl | (simp; done) | (simp [*]; done)), H', ⟨by have := HK1.out; have := HJ7.out; omega⟩, ⟨by (with_reducible repeat (first | apply Kd.R_alloc | apply Kd.R_drewN | apply Kd.R_drew)); exact Kd.R_mono HO345.out (fun _ hk => trivial)⟩, ⟨by repeat (first | (with_reducible first | exact HB.out | apply below_alloc | apply pw_below_drewN | apply below_drew1) | exact HB.out)⟩⟩
                  · rw [if_neg c18] at H
                    exact absurd H (by simp)
                · rw [if_neg c16] at H
                  have c16b0 : decide ((bt a0 x4_1) < 32) = false := decide_eq_false c16
                  clear c16
                  by_cases c23 : x3_1.length < 140737488355328
                  · rw [if_pos c23] at H
                    have LMc23 := Aside0.mk c23
                    clear c23
                    obtain ⟨y346, hy346⟩ : ∃ y_ : List Int, y_ = (x3_1 ++ [(bt a0 x4_1)]) := ⟨_, rfl⟩
                    replace H : (spec_Quote.l0 kj7 a0 y346 (wrap64 (x4_1 + 1))) = some r := by first | (rw [hy346]; with_reducible exact H) | (have H2_ := (Option.bind_some _ _).symm.trans H; rw [hy346]; with_reducible exact H2_) | (have H2_ := (Option.bind_some _ _).symm.trans H; with_reducible exact H2_) | with_reducible exact H | (rw [hy346]; exact H) | exact H
                    have Ny346 := Aside0.mk hy346
                    clear hy346
                    have H' := Aside0.mk H
                    clear H
                    go_wp2_with (first | ((with_reducible refine gate_builtin (b := .append) (xs := #[.tmp 23, .tmp 25]) rfl ?_); at_builtin; refine Kd.R_append (Kd.int .u8) (w0 := w) w.heap.size rfl (.tmp 23) (.tmp 25) 49 5 (.int .u8 0) 1 rfl Tryz.underlying49 info5 rfl (by decide) (by omega) u3 x3_1 (bt a0 x4_1) [.int .u8 (bt a0 x4_1)] (fun _ => True) (fun _ => False) rfl rfl ?aP (fun _ hk => hk.elim) ?aF ?aO ?aB ?aS ?aL ?_; (case aP => exact rfl); (case aB => exact (by repeat (first | (with_reducible first | exact HB.out | apply below_alloc | apply pw_below_drewN | apply below_drew1) | exact HB.out))); (case aF => exact (fun _ _ => trivial)); (case aO => exact (by (with_reducible repeat (first | apply Kd.R_alloc | apply Kd.R_drewN | apply Kd.R_drew)); exact HO_3.out)); (case aS => exact (below_size (by repeat (first | (with_reducible first | exact HB.out | apply below_alloc | apply pw_below_drewN | apply below_drew1) | exact HB.out)))); (case aL => have := LMc23.out; omega); intro v347 w24 ho hb hg hat; rw [← Ny346.out] at ho; have n0_ := Aside0.mk (hb); have n1_ := Aside0.mk (ho); clear HB; clear HO_3; have HB := n0_; have HO348 := n1_; clear n0_ n1_; clear ho hb hg hat))
                    go_roundg kj7
                    case measure => have := HK1.out; have := HJ7.out; omega
                    case rel => exact ⟨(y346), (wrap64 (x4_1 + 1)), (by first | rfl | (simp; done) | (simp [*]; done)), H', ⟨by have := HK1.out; have := HJ7.out; omega⟩, ⟨by (with_reducible repeat (first | apply Kd.R_alloc | apply Kd.R_drewN | apply Kd.R_drew)); exact HO348.out⟩, ⟨by repeat (first | (with_reducible first | exact HB.out | apply below_alloc | apply pw_below_drewN | apply below_drew1) | exact HB.out)⟩⟩
                  · rw [if_neg c23] at H
                    exact absurd H (by simp)
        · rw [if_neg c5] at H
          exact absurd H (by simp)
      · rw [if_neg c4] at H
        have c4b0 : decide (x4_1 < (a0.size : Int)) = false := decide_eq_false c4
        clear c4
        by_cases c25 : x3_1.length < 140737488355328
        · rw [if_pos c25] at H
          have LMc25 := Aside0.mk c25
          clear c25
          obtain ⟨y328, hy328⟩ : ∃ y_ : List Int, y_ = (x3_1 ++ [34]) := ⟨_, rfl⟩
          replace H : (some (strOfNums y328)) = some r := by first | (rw [hy328]; with_reducible exact H) | (have H2_ := (Option.bind_some _ _).symm.trans H; rw [hy328]; with_reducible exact H2_) | (have H2_ := (Option.bind_some _ _).symm.trans H; with_reducible exact H2_) | with_reducible exact H | (rw [hy328]; exact H) | exact H
          have Ny328 := Aside0.mk hy328
          clear hy328
          obtain rfl := Option.some.inj H
          go_wp2_with (first | ((with_reducible refine gate_builtin (b := .append) (xs := #[.tmp 50, .tmp 51]) rfl ?_); at_builtin; refine Kd.R_append (Kd.int .u8) (w0 := w) w.heap.size rfl (.tmp 50) (.tmp 51) 49 5 (.int .u8 0) 1 rfl Tryz.underlying49 info5 rfl (by decide) (by omega) u3 x3_1 34 [.int .u8 34] (fun _ => True) (fun _ => False) rfl rfl ?aP (fun _ hk => hk.elim) ?aF ?aO ?aB ?aS ?aL ?_; (case aP => exact rfl); (case aB => exact (by repeat (first | (with_reducible first | exact HB.out | apply below_alloc | apply pw_below_drewN | apply below_drew1) | exact HB.out))); (case aF => exact (fun _ _ => trivial)); (case aO => exact (by (with_reducible repeat (first | apply Kd.R_alloc | apply Kd.R_drewN | apply Kd.R_drew)); exact HO_3.out)); (case aS => exact (below_size (by repeat (first | (with_reducible first | exact HB.out | apply below_alloc | apply pw_below_drewN | apply below_drew1) | exact HB.out)))); (case aL => have := LMc25.out; omega); intro v329 w26 ho hb hg hat; rw [← Ny328.out] at ho; have n0_ := Aside0.mk (hb); have n1_ := Aside0.mk (ho); clear HB; clear HO_3; have HB := n0_; have HO330 := n1_; clear n0_ n1_; clear ho hb hg hat; have hcv27 := own_string (P := Tryz.prog) Tryz.underlying49 Tryz.underlying5 Tryz.underlying9 (Kd.own_of_R HO330.out)))
          go_ret
          exact ⟨by first | rfl | (simp [errW_none, errW_some] <;> rfl) | (simp [*, errW_none, errW_some] <;> rfl), by repeat (first | (with_reducible first | exact HB.out | apply below_alloc | apply pw_below_drewN | apply below_drew1) | exact HB.out)⟩
        · rw [if_neg c25] at H
          exact absurd H (by simp)


end Go.Proofs.YtkhgbacbnkgafaaGreatDoor.PFnGjMatchesLike
