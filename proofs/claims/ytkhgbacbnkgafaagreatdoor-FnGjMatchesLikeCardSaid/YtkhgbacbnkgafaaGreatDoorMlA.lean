-- Written for this claim by this session's own program (wip/xprint).
import Derived.Test.YtkhgbacbnkgafaaGreatDoorPFnGjMatchesLikex0
import Derived.Test.YtkhgbacbnkgafaaGreatDoorProg
import Derived.Below
import Derived.Deep.Draws
import Derived.Deep.AppendLies
import Derived.Maps.AppendAt
import Derived.OwnWalk
import Derived.Laws.BytesArg
import Derived.Laws.MakeOwn
import Derived.Laws.OwnMore
import Derived.Deep.OwnRows
import Derived.Tactics
import Derived.Lib.ConvBytes
import Derived.Laws.Slices
import Derived.WalkKit
import Derived.KernelRfl
import Derived.RowKit3
import Derived.Deep.LoopGhost
import Derived.Deep.QuietTactic
import Derived.BigQuiet
import Derived.WideLaws
import Derived.Deep.DeepCutAuto
import Derived.Deep.CutBlock
import Derived.Deep.RegionHeld3
import Derived.Laws.Rows
import Derived.Lib.AppendStr
import Derived.ArgAppend
import Derived.Laws.IdiomCopy
import Derived.OrdersHeld
import Derived.Laws.BitsLemmas
import Derived.RowKit
import Derived.Test.YtkhgbacbnkgafaaGreatDoorXLaidFnGjMatchesLike
import Derived.Test.YtkhgbacbnkgafaaGreatDoorUtf8L
import Derived.Test.YtkhgbacbnkgafaaGreatDoorXWords
import Derived.Test.YtkhgbacbnkgafaaGreatDoorWWords
import Derived.Test.YtkhgbacbnkgafaaGreatDoorWLast
import Derived.Test.YtkhgbacbnkgafaaGreatDoorWTab
import Derived.Test.YtkhgbacbnkgafaaGreatDoorWFour
import Derived.Test.YtkhgbacbnkgafaaGreatDoorWQPut
import Derived.Test.YtkhgbacbnkgafaaGreatDoorWApart
import Derived.Test.YtkhgbacbnkgafaaGreatDoorWArr
import Derived.Test.YtkhgbacbnkgafaaGreatDoorWZeros
import Derived.Test.YtkhgbacbnkgafaaGreatDoorWFoot
import Derived.Test.YtkhgbacbnkgafaaGreatDoorWKept
import Derived.Test.YtkhgbacbnkgafaaGreatDoorWShare
import Derived.Test.YtkhgbacbnkgafaaGreatDoorWN
import Derived.Test.YtkhgbacbnkgafaaGreatDoorWFootNe
import Derived.Test.YtkhgbacbnkgafaaGreatDoorWAt
import Derived.Test.YtkhgbacbnkgafaaGreatDoorWEqStruct
import Derived.Test.YtkhgbacbnkgafaaGreatDoorWRepsOne
import Derived.Test.YtkhgbacbnkgafaaGreatDoorWInv
import Derived.Test.YtkhgbacbnkgafaaGreatDoorWInvWords
import Derived.Test.YtkhgbacbnkgafaaGreatDoorWGuard
import Derived.Test.YtkhgbacbnkgafaaGreatDoorWNEv
import Derived.Test.YtkhgbacbnkgafaaGreatDoorWMore
namespace Go.Proofs.YtkhgbacbnkgafaaGreatDoor.PFnGjMatchesLike
open Go.RowKit Go.Proofs.YtkhgbacbnkgafaaGreatDoorW.PrintWords Go.Proofs.YtkhgbacbnkgafaaGreatDoorW.PrintLast Go.Proofs.YtkhgbacbnkgafaaGreatDoorW.PrintMore
attribute [local go_sem] max2_int min2_int max_two min_two max_three min_three max_four min_four   -- for this text's walks alone
set_option linter.unusedVariables false
set_option linter.unusedSimpArgs false

/-! ### spec_high: function 25 -/
def spec_high.f (a0 : Int) : Option (Bool) := if 55296 ≤ a0 then (some (decide (a0 ≤ 56319))) else (some false)
set_option maxHeartbeats 8000000 in
set_option maxRecDepth 100000 in
theorem spec_high.calls (a0 : Int) (r : Bool) (w : World) (h : spec_high.f a0 = some r) :
    Calls Tryz.prog 25 #[.int .i64 a0] w fun e w' => e = .returned (.bool r) ∧ Drawn0 w w' := by
  have H : (if 55296 ≤ a0 then (some (decide (a0 ≤ 56319))) else (some false)) = some r := h
  clear h
  by_cases c2 : 55296 ≤ a0
  · rw [if_pos c2] at H
    have c2b0 : decide (55296 ≤ a0) = true := decide_eq_true c2
    clear c2
    obtain rfl := Option.some.inj H
    go_enter Tryz.func25, Tryz.ntmps25
    go_wp2
    go_ret
    exact ⟨by first | rfl | (simp; done) | (simp [*]; done), by repeat (first | exact Drawn0.refl _ | apply Drawn0.step)⟩
  · rw [if_neg c2] at H
    have c2b0 : decide (55296 ≤ a0) = false := decide_eq_false c2
    clear c2
    obtain rfl := Option.some.inj H
    go_enter Tryz.func25, Tryz.ntmps25
    go_wp2
    go_ret
    exact ⟨by first | rfl | (simp; done) | (simp [*]; done), by repeat (first | exact Drawn0.refl _ | apply Drawn0.step)⟩


/-! ### spec_low: function 26 -/
def spec_low.f (a0 : Int) : Option (Bool) := if 56320 ≤ a0 then (some (decide (a0 ≤ 57343))) else (some false)
set_option maxHeartbeats 8000000 in
set_option maxRecDepth 100000 in
theorem spec_low.calls (a0 : Int) (r : Bool) (w : World) (h : spec_low.f a0 = some r) :
    Calls Tryz.prog 26 #[.int .i64 a0] w fun e w' => e = .returned (.bool r) ∧ Drawn0 w w' := by
  have H : (if 56320 ≤ a0 then (some (decide (a0 ≤ 57343))) else (some false)) = some r := h
  clear h
  by_cases c2 : 56320 ≤ a0
  · rw [if_pos c2] at H
    have c2b0 : decide (56320 ≤ a0) = true := decide_eq_true c2
    clear c2
    obtain rfl := Option.some.inj H
    go_enter Tryz.func26, Tryz.ntmps26
    go_wp2
    go_ret
    exact ⟨by first | rfl | (simp; done) | (simp [*]; done), by repeat (first | exact Drawn0.refl _ | apply Drawn0.step)⟩
  · rw [if_neg c2] at H
    have c2b0 : decide (56320 ≤ a0) = false := decide_eq_false c2
    clear c2
    obtain rfl := Option.some.inj H
    go_enter Tryz.func26, Tryz.ntmps26
    go_wp2
    go_ret
    exact ⟨by first | rfl | (simp; done) | (simp [*]; done), by repeat (first | exact Drawn0.refl _ | apply Drawn0.step)⟩


/-! ### spec_Character: function 18 -/
mutual
def spec_Character.j2 : Nat → ByteArray → Int → Int → Int → Int → Option (Int × Int × Bool)
  | 0, _, _, _, _, _ => none
  | k + 1, x0, x1, x7, x8, x9 => if (wrap64 ((x0.size : Int) - x1)) ≤ x8 then (some (65533, 1, false)) else (spec_Character.l0 k x0 x1 x7 x8 x9 1)
def spec_Character.l0 : Nat → ByteArray → Int → Int → Int → Int → Int → Option (Int × Int × Bool)
  | 0, _, _, _, _, _, _ => none
  | k + 1, x0, x1, x7, x8, x9, x10 => if x10 ≤ x8 then (if 0 ≤ (wrap64 (x1 + x10)) then (if (wrap64 (x1 + x10)) < (x0.size : Int) then (if (wrap64 (bt x0 (wrap64 (x1 + x10)))) < 128 then (some (65533, 1, false)) else (if (wrap64 (bt x0 (wrap64 (x1 + x10)))) > 191 then (some (65533, 1, false)) else (spec_Character.l0 k x0 x1 (wrap64 ((wrap64 ((wrap64 (x7 * 64)) + (wrap64 (bt x0 (wrap64 (x1 + x10)))))) - 128)) x8 x9 (wrap64 (x10 + 1))))) else (none)) else (none)) else (if x7 < x9 then (some (65533, 1, false)) else (if x7 > 1114111 then (some (65533, 1, false)) else ((spec_high.f x7).bind fun t101 => (if t101 = true then (some (65533, 1, false)) else ((spec_low.f x7).bind fun t102 => (if t102 = true then (some (65533, 1, false)) else (some (x7, wrap64 (x8 + 1), true))))))))
def spec_Character.j0 : Nat → ByteArray → Int → Int → Bool → Option (Int × Int × Bool)
  | 0, _, _, _, _ => none
  | k + 1, x0, x1, x7, x20 => if x20 = true then (spec_Character.j2 k x0 x1 (wrap64 (x7 - 192)) 1 128) else (if 224 ≤ x7 then (spec_Character.j1 k x0 x1 x7 (decide (x7 ≤ 239))) else (spec_Character.j1 k x0 x1 x7 false))
def spec_Character.j1 : Nat → ByteArray → Int → Int → Bool → Option (Int × Int × Bool)
  | 0, _, _, _, _ => none
  | k + 1, x0, x1, x7, x29 => if x29 = true then (spec_Character.j2 k x0 x1 (wrap64 (x7 - 224)) 2 2048) else (if 240 ≤ x7 then (if x7 ≤ 244 then (spec_Character.j2 k x0 x1 (wrap64 (x7 - 240)) 3 65536) else (some (65533, 1, false))) else (some (65533, 1, false)))
end
def spec_Character.f (k : Nat) (a0 : ByteArray) (a1 : Int) : Option (Int × Int × Bool) := if 0 ≤ a1 then (if a1 < (a0.size : Int) then (if (wrap64 (bt a0 a1)) < 128 then (some (wrap64 (bt a0 a1), 1, true)) else (if 194 ≤ (wrap64 (bt a0 a1)) then (spec_Character.j0 k a0 a1 (wrap64 (bt a0 a1)) (decide ((wrap64 (bt a0 a1)) ≤ 223))) else (spec_Character.j0 k a0 a1 (wrap64 (bt a0 a1)) false))) else (none)) else (none)
theorem spec_Character.mono_l : ∀ k, (∀ y0 y1 y2 y3 y4, LeO (spec_Character.j2 k y0 y1 y2 y3 y4) (spec_Character.j2 (k + 1) y0 y1 y2 y3 y4)) ∧ (∀ y0 y1 y2 y3 y4 y5, LeO (spec_Character.l0 k y0 y1 y2 y3 y4 y5) (spec_Character.l0 (k + 1) y0 y1 y2 y3 y4 y5)) ∧ (∀ y0 y1 y2 y3, LeO (spec_Character.j0 k y0 y1 y2 y3) (spec_Character.j0 (k + 1) y0 y1 y2 y3)) ∧ (∀ y0 y1 y2 y3, LeO (spec_Character.j1 k y0 y1 y2 y3) (spec_Character.j1 (k + 1) y0 y1 y2 y3))
  | 0 => ⟨fun _ _ _ _ _ r h => by simp [spec_Character.j2] at h, fun _ _ _ _ _ _ r h => by simp [spec_Character.l0] at h, fun _ _ _ _ r h => by simp [spec_Character.j0] at h, fun _ _ _ _ r h => by simp [spec_Character.j1] at h⟩
  | k + 1 => by
    obtain ⟨ih0, ih1, ih2, ih3⟩ := spec_Character.mono_l k
    refine ⟨?_, ?_, ?_, ?_⟩
    · intro y0 y1 y2 y3 y4
      unfold spec_Character.j2
      repeat' first
      | (with_reducible exact ih0 _ _ _ _ _)
      | (with_reducible exact ih1 _ _ _ _ _ _)
      | (with_reducible exact ih2 _ _ _ _)
      | (with_reducible exact ih3 _ _ _ _)
      | (with_reducible exact LeO.refl _)
      | (with_reducible exact LeO.none _)
      | (with_reducible refine LeO.ite ?_ ?_)
      | (with_reducible refine LeO.bind ?_ (fun _ => ?_))
      | exact ih0 _ _ _ _ _
      | exact ih1 _ _ _ _ _ _
      | exact ih2 _ _ _ _
      | exact ih3 _ _ _ _
      | exact LeO.none _
      | refine LeO.ite ?_ ?_
      | refine LeO.bind ?_ (fun _ => ?_)
    · intro y0 y1 y2 y3 y4 y5
      unfold spec_Character.l0
      repeat' first
      | (with_reducible exact ih0 _ _ _ _ _)
      | (with_reducible exact ih1 _ _ _ _ _ _)
      | (with_reducible exact ih2 _ _ _ _)
      | (with_reducible exact ih3 _ _ _ _)
      | (with_reducible exact LeO.refl _)
      | (with_reducible exact LeO.none _)
      | (with_reducible refine LeO.ite ?_ ?_)
      | (with_reducible refine LeO.bind ?_ (fun _ => ?_))
      | exact ih0 _ _ _ _ _
      | exact ih1 _ _ _ _ _ _
      | exact ih2 _ _ _ _
      | exact ih3 _ _ _ _
      | exact LeO.none _
      | refine LeO.ite ?_ ?_
      | refine LeO.bind ?_ (fun _ => ?_)
    · intro y0 y1 y2 y3
      unfold spec_Character.j0
      repeat' first
      | (with_reducible exact ih0 _ _ _ _ _)
      | (with_reducible exact ih1 _ _ _ _ _ _)
      | (with_reducible exact ih2 _ _ _ _)
      | (with_reducible exact ih3 _ _ _ _)
      | (with_reducible exact LeO.refl _)
      | (with_reducible exact LeO.none _)
      | (with_reducible refine LeO.ite ?_ ?_)
      | (with_reducible refine LeO.bind ?_ (fun _ => ?_))
      | exact ih0 _ _ _ _ _
      | exact ih1 _ _ _ _ _ _
      | exact ih2 _ _ _ _
      | exact ih3 _ _ _ _
      | exact LeO.none _
      | refine LeO.ite ?_ ?_
      | refine LeO.bind ?_ (fun _ => ?_)
    · intro y0 y1 y2 y3
      unfold spec_Character.j1
      repeat' first
      | (with_reducible exact ih0 _ _ _ _ _)
      | (with_reducible exact ih1 _ _ _ _ _ _)
      | (with_reducible exact ih2 _ _ _ _)
      | (with_reducible exact ih3 _ _ _ _)
      | (with_reducible exact LeO.refl _)
      | (with_reducible exact LeO.none _)
      | (with_reducible refine LeO.ite ?_ ?_)
      | (with_reducible refine LeO.bind ?_ (fun _ => ?_))
      | exact ih0 _ _ _ _ _
      | exact ih1 _ _ _ _ _ _
      | exact ih2 _ _ _ _
      | exact ih3 _ _ _ _
      | exact LeO.none _
      | refine LeO.ite ?_ ?_
      | refine LeO.bind ?_ (fun _ => ?_)
theorem spec_Character.mono : ∀ a0 a1 k, LeO (spec_Character.f k a0 a1) (spec_Character.f (k + 1) a0 a1) := by
  intro a0 a1 k
  obtain ⟨ih0, ih1, ih2, ih3⟩ := spec_Character.mono_l k
  unfold spec_Character.f
  repeat' first
      | (with_reducible exact ih0 _ _ _ _ _)
      | (with_reducible exact ih1 _ _ _ _ _ _)
      | (with_reducible exact ih2 _ _ _ _)
      | (with_reducible exact ih3 _ _ _ _)
      | (with_reducible exact LeO.refl _)
      | (with_reducible exact LeO.none _)
      | (with_reducible refine LeO.ite ?_ ?_)
      | (with_reducible refine LeO.bind ?_ (fun _ => ?_))
      | exact ih0 _ _ _ _ _
      | exact ih1 _ _ _ _ _ _
      | exact ih2 _ _ _ _
      | exact ih3 _ _ _ _
      | exact LeO.none _
      | refine LeO.ite ?_ ?_
      | refine LeO.bind ?_ (fun _ => ?_)
set_option maxHeartbeats 8000000 in
set_option maxRecDepth 100000 in
theorem spec_Character.calls (k : Nat) (a0 : ByteArray) (a1 : Int) (r1 : Int) (r2 : Int) (r3 : Bool) (w : World) (h : spec_Character.f k a0 a1 = some (r1, r2, r3)) :
    Calls Tryz.prog 18 #[.string a0, .int .i64 a1] w fun e w' => e = .returned (.tuple #[.int .i64 r1, .int .i64 r2, .bool r3]) ∧ Drawn0 w w' := by
  have H : (if 0 ≤ a1 then (if a1 < (a0.size : Int) then (if (wrap64 (bt a0 a1)) < 128 then (some (wrap64 (bt a0 a1), 1, true)) else (if 194 ≤ (wrap64 (bt a0 a1)) then (spec_Character.j0 k a0 a1 (wrap64 (bt a0 a1)) (decide ((wrap64 (bt a0 a1)) ≤ 223))) else (spec_Character.j0 k a0 a1 (wrap64 (bt a0 a1)) false))) else (none)) else (none)) = some (r1, r2, r3) := h
  clear h
  by_cases c3 : 0 ≤ a1
  · rw [if_pos c3] at H
    have c3b0 : decide (0 ≤ a1) = true := decide_eq_true c3
    clear c3
    by_cases c4 : a1 < (a0.size : Int)
    · rw [if_pos c4] at H
      have c4b0 : decide (a1 < (a0.size : Int)) = true := decide_eq_true c4
      clear c4
      have HC6 := Aside0.mk H
      clear H
      have p5 : 0 ≤ (a1 : Int) := of_decide_eq_true (by first | (with_reducible assumption) | assumption)
      have q5 : a1 < (a0.size : Int) := of_decide_eq_true (by first | (with_reducible assumption) | assumption)
      have hx5 := bt_at a0 a1
      replace p5 := eq_true p5
      replace q5 := eq_true q5
      go_enter Tryz.func18, Tryz.ntmps18
      go_upto_block 0 with (fail)
      go_cut [7, 8, 9] (fun v7 v8 v9 wc => ∃ (kq : Nat) (x7_5 : Int) (x8_5 : Int) (x9_5 : Int), v7 = .int .i64 x7_5 ∧ v8 = .int .i64 x8_5 ∧ v9 = .int .i64 x9_5 ∧ Aside0 (spec_Character.j2 kq a0 a1 x7_5 x8_5 x9_5 = some (r1, r2, r3)) ∧ Aside0 (kq ≤ k) ∧ Drawn0 w wc)
      case first =>
        have H := HC6.out
        clear HC6
        by_cases c7 : (wrap64 (bt a0 a1)) < 128
        · rw [if_pos c7] at H
          have c7b0 : decide ((wrap64 (bt a0 a1)) < 128) = true := decide_eq_true c7
          clear c7
          (first | rw [c7b0] | (simp only [i64_w, i32_w]; rw [c7b0]) | skip)
          simp only [Option.some.injEq, Prod.mk.injEq] at H
          obtain ⟨rfl, rfl, rfl⟩ := H
          go_wp2
          go_ret3
          exact ⟨by first | rfl | (simp; done) | (simp [*]; done), by repeat (first | exact Drawn0.refl _ | apply Drawn0.step)⟩
        · rw [if_neg c7] at H
          have c7b0 : decide ((wrap64 (bt a0 a1)) < 128) = false := decide_eq_false c7
          clear c7
          (first | rw [c7b0] | (simp only [i64_w, i32_w]; rw [c7b0]) | skip)
          have HC8 := Aside0.mk H
          clear H
          go_upto_region 6 with (fail)
          go_cut [20] (fun v20 wc => ∃ (kq : Nat) (x20_7 : Bool), v20 = .bool x20_7 ∧ Aside0 (spec_Character.j0 kq a0 a1 (wrap64 (bt a0 a1)) x20_7 = some (r1, r2, r3)) ∧ Aside0 (kq ≤ k) ∧ Drawn0 w wc)
          case first =>
            have H := HC8.out
            clear HC8
            by_cases c9 : 194 ≤ (wrap64 (bt a0 a1))
            · rw [if_pos c9] at H
              have c9b0 : decide (194 ≤ (wrap64 (bt a0 a1))) = true := decide_eq_true c9
              clear c9
              (first | rw [c9b0] | (simp only [i64_w, i32_w]; rw [c9b0]) | skip)
              have H' := Aside0.mk H
              clear H
              go_wp2
              (first | go_meet)
              case rel => exact ⟨_, (decide ((wrap64 (bt a0 a1)) ≤ 223)), (by first | rfl | (simp; done) | (simp [*]; done)), H', ⟨by first | omega | exact Nat.le_refl _⟩, by repeat (first | exact Drawn0.refl _ | apply Drawn0.step)⟩
            · rw [if_neg c9] at H
              have c9b0 : decide (194 ≤ (wrap64 (bt a0 a1))) = false := decide_eq_false c9
              clear c9
              (first | rw [c9b0] | (simp only [i64_w, i32_w]; rw [c9b0]) | skip)
              have H' := Aside0.mk H
              clear H
              go_wp2
              (first | go_meet)
              case rel => exact ⟨_, (false), (by first | rfl | (simp; done) | (simp [*]; done)), H', ⟨by first | omega | exact Nat.le_refl _⟩, by repeat (first | exact Drawn0.refl _ | apply Drawn0.step)⟩
          case rest =>
            clear HC8
            try clear c1
            try clear p2
            try clear c3
            try clear c3b0
            try clear c4
            try clear c4b0
            try clear p5
            try clear q5
            try clear hx5
            try clear p6
            try clear c7
            try clear c7b0
            try clear c9
            try clear c9b0
            try clear p5
            try clear q5
            obtain ⟨kq, x20_7, rfl, HA, HJ7, ⟨mc7, rfl⟩⟩ := hcut
            cases kq with
            | zero => exact absurd HA.out (by simp [spec_Character.j0])
            | succ kj7 =>
              have H := HA.out
              clear HA
              simp only [spec_Character.j0] at H
              by_cases c10 : x20_7 = true
              · subst c10
                have H1 : (spec_Character.j2 kj7 a0 a1 (wrap64 ((wrap64 (bt a0 a1)) - 192)) 1 128) = some (r1, r2, r3) := by rw [if_pos rfl] at H; exact H
                clear H
                have H := H1
                clear H1
                have H' := Aside0.mk H
                clear H
                go_wp2
                (first | go_meet)
                case rel => exact ⟨_, (wrap64 ((wrap64 (bt a0 a1)) - 192)), (1), (128), (by first | rfl | (simp; done) | (simp [*]; done)), (by first | rfl | (simp; done) | (simp [*]; done)), (by first | rfl | (simp; done) | (simp [*]; done)), H', ⟨by have := HJ7.out; first | omega | exact Nat.le_refl _⟩, by repeat (first | exact Drawn0.refl _ | apply Drawn0.step)⟩
              · replace c10 := Bool.eq_false_iff.mpr c10
                subst c10
                have H1 : (if 224 ≤ (wrap64 (bt a0 a1)) then (spec_Character.j1 kj7 a0 a1 (wrap64 (bt a0 a1)) (decide ((wrap64 (bt a0 a1)) ≤ 239))) else (spec_Character.j1 kj7 a0 a1 (wrap64 (bt a0 a1)) false)) = some (r1, r2, r3) := by rw [if_neg (show ¬ (false = true) by decide)] at H; exact H
                clear H
                have H := H1
                clear H1
                have HC11 := Aside0.mk H
                clear H
                go_upto_region 8 with (fail)
                go_cut [29] (fun v29 wc => ∃ (kq : Nat) (x29_10 : Bool), v29 = .bool x29_10 ∧ Aside0 (spec_Character.j1 kq a0 a1 (wrap64 (bt a0 a1)) x29_10 = some (r1, r2, r3)) ∧ Aside0 (kq ≤ kj7) ∧ Drawn0 w wc)
                case first =>
                  have H := HC11.out
                  clear HC11
                  by_cases c12 : 224 ≤ (wrap64 (bt a0 a1))
                  · rw [if_pos c12] at H
                    have c12b0 : decide (224 ≤ (wrap64 (bt a0 a1))) = true := decide_eq_true c12
                    clear c12
                    (first | rw [c12b0] | (simp only [i64_w, i32_w]; rw [c12b0]) | skip)
                    have H' := Aside0.mk H
                    clear H
                    go_wp2
                    (first | go_meet)
                    case rel => exact ⟨_, (decide ((wrap64 (bt a0 a1)) ≤ 239)), (by first | rfl | (simp; done) | (simp [*]; done)), H', ⟨by have := HJ7.out; first | omega | exact Nat.le_refl _⟩, by repeat (first | exact Drawn0.refl _ | apply Drawn0.step)⟩
                  · rw [if_neg c12] at H
                    have c12b0 : decide (224 ≤ (wrap64 (bt a0 a1))) = false := decide_eq_false c12
                    clear c12
                    (first | rw [c12b0] | (simp only [i64_w, i32_w]; rw [c12b0]) | skip)
                    have H' := Aside0.mk H
                    clear H
                    go_wp2
                    (first | go_meet)
                    case rel => exact ⟨_, (false), (by first | rfl | (simp; done) | (simp [*]; done)), H', ⟨by have := HJ7.out; first | omega | exact Nat.le_refl _⟩, by repeat (first | exact Drawn0.refl _ | apply Drawn0.step)⟩
                case rest =>
                  clear HC11
                  try clear c1
                  try clear p2
                  try clear c3
                  try clear c3b0
                  try clear c4
                  try clear c4b0
                  try clear p5
                  try clear q5
                  try clear hx5
                  try clear p6
                  try clear c7
                  try clear c7b0
                  try clear c9
                  try clear c9b0
                  try clear c10
                  try clear c12
                  try clear c12b0
                  try clear p2
                  try clear p5
                  try clear p6
                  try clear q5
                  obtain ⟨kq, x29_10, rfl, HA, HJ10, ⟨mc10, rfl⟩⟩ := hcut
                  cases kq with
                  | zero => exact absurd HA.out (by simp [spec_Character.j1])
                  | succ kj10 =>
                    have H := HA.out
                    clear HA
                    simp only [spec_Character.j1] at H
                    by_cases c13 : x29_10 = true
                    · subst c13
                      have H1 : (spec_Character.j2 kj10 a0 a1 (wrap64 ((wrap64 (bt a0 a1)) - 224)) 2 2048) = some (r1, r2, r3) := by rw [if_pos rfl] at H; exact H
                      clear H
                      have H := H1
                      clear H1
                      have H' := Aside0.mk H
                      clear H
                      go_wp2
                      (first | go_meet)
                      case rel => exact ⟨_, (wrap64 ((wrap64 (bt a0 a1)) - 224)), (2), (2048), (by first | rfl | (simp; done) | (simp [*]; done)), (by first | rfl | (simp; done) | (simp [*]; done)), (by first | rfl | (simp; done) | (simp [*]; done)), H', ⟨by have := HJ7.out; have := HJ10.out; first | omega | exact Nat.le_refl _⟩, by repeat (first | exact Drawn0.refl _ | apply Drawn0.step)⟩
                    · replace c13 := Bool.eq_false_iff.mpr c13
                      subst c13
                      have H1 : (if 240 ≤ (wrap64 (bt a0 a1)) then (if (wrap64 (bt a0 a1)) ≤ 244 then (spec_Character.j2 kj10 a0 a1 (wrap64 ((wrap64 (bt a0 a1)) - 240)) 3 65536) else (some (65533, 1, false))) else (some (65533, 1, false))) = some (r1, r2, r3) := by rw [if_neg (show ¬ (false = true) by decide)] at H; exact H
                      clear H
                      have H := H1
                      clear H1
                      by_cases c14 : 240 ≤ (wrap64 (bt a0 a1))
                      · rw [if_pos c14] at H
                        have c14b0 : decide (240 ≤ (wrap64 (bt a0 a1))) = true := decide_eq_true c14
                        clear c14
                        by_cases c15 : (wrap64 (bt a0 a1)) ≤ 244
                        · rw [if_pos c15] at H
                          have c15b0 : decide ((wrap64 (bt a0 a1)) ≤ 244) = true := decide_eq_true c15
                          clear c15
                          have H' := Aside0.mk H
                          clear H
                          go_wp2
                          (first | go_meet)
                          case rel => exact ⟨_, (wrap64 ((wrap64 (bt a0 a1)) - 240)), (3), (65536), (by first | rfl | (simp; done) | (simp [*]; done)), (by first | rfl | (simp; done) | (simp [*]; done)), (by first | rfl | (simp; done) | (simp [*]; done)), H', ⟨by have := HJ7.out; have := HJ10.out; first | omega | exact Nat.le_refl _⟩, by repeat (first | exact Drawn0.refl _ | apply Drawn0.step)⟩
                        · rw [if_neg c15] at H
                          have c15b0 : decide ((wrap64 (bt a0 a1)) ≤ 244) = false := decide_eq_false c15
                          clear c15
                          simp only [Option.some.injEq, Prod.mk.injEq] at H
                          obtain ⟨rfl, rfl, rfl⟩ := H
                          go_wp2
                          go_ret3
                          exact ⟨by first | rfl | (simp; done) | (simp [*]; done), by repeat (first | exact Drawn0.refl _ | apply Drawn0.step)⟩
                      · rw [if_neg c14] at H
                        have c14b0 : decide (240 ≤ (wrap64 (bt a0 a1))) = false := decide_eq_false c14
                        clear c14
                        simp only [Option.some.injEq, Prod.mk.injEq] at H
                        obtain ⟨rfl, rfl, rfl⟩ := H
                        go_wp2
                        go_ret3
                        exact ⟨by first | rfl | (simp; done) | (simp [*]; done), by repeat (first | exact Drawn0.refl _ | apply Drawn0.step)⟩
      case rest =>
        clear HC6
        try clear c1
        try clear p2
        try clear c3
        try clear c3b0
        try clear c4
        try clear c4b0
        try clear p5
        try clear q5
        try clear hx5
        try clear p6
        try clear c7
        try clear c7b0
        try clear c9
        try clear c9b0
        try clear c10
        try clear c12
        try clear c12b0
        try clear c13
        try clear c14
        try clear c14b0
        try clear c15
        try clear c15b0
        try clear p2
        try clear p5
        try clear p6
        try clear q5
        obtain ⟨kq, x7_5, x8_5, x9_5, rfl, rfl, rfl, HA, HJ5, ⟨mc5, rfl⟩⟩ := hcut
        cases kq with
        | zero => exact absurd HA.out (by simp [spec_Character.j2])
        | succ kj5 =>
          have H := HA.out
          clear HA
          simp only [spec_Character.j2] at H
          by_cases c16 : (wrap64 ((a0.size : Int) - a1)) ≤ x8_5
          · rw [if_pos c16] at H
            have c16b0 : decide ((wrap64 ((a0.size : Int) - a1)) ≤ x8_5) = true := decide_eq_true c16
            clear c16
            simp only [Option.some.injEq, Prod.mk.injEq] at H
            obtain ⟨rfl, rfl, rfl⟩ := H
            go_wp2
            go_ret3
            exact ⟨by first | rfl | (simp; done) | (simp [*]; done), by repeat (first | exact Drawn0.refl _ | apply Drawn0.step)⟩
          · rw [if_neg c16] at H
            have c16b0 : decide ((wrap64 ((a0.size : Int) - a1)) ≤ x8_5) = false := decide_eq_false c16
            clear c16
            have H' := Aside0.mk H
            clear H
            go_wp2
            (try simp only [Act.put, List.setIfInBounds_toArray, List.set_cons_zero, List.set_cons_succ])
            go_loopg [7, 10] kj5 (fun kq v7 v10 w' => ∃ (x7_2 : Int) (x10_2 : Int), v7 = .int .i64 x7_2 ∧ v10 = .int .i64 x10_2 ∧ Aside0 (spec_Character.l0 kq a0 a1 x7_2 x8_5 x9_5 x10_2 = some (r1, r2, r3)) ∧ Aside0 (kq ≤ kj5) ∧ Drawn0 w w')
            case atStart => exact ⟨(x7_5), (1), (by first | rfl | (simp; done) | (simp [*]; done)), (by first | rfl | (simp; done) | (simp [*]; done)), H', ⟨Nat.le_refl _⟩, by repeat (first | exact Drawn0.refl _ | apply Drawn0.step)⟩
            case round =>
              clear H'
              try clear c1
              try clear p2
              try clear c3
              try clear c3b0
              try clear c4
              try clear c4b0
              try clear c5
              try clear p5
              try clear q5
              try clear hx5
              try clear p6
              try clear c7
              try clear c7b0
              try clear c9
              try clear c9b0
              try clear c10
              try clear c12
              try clear c12b0
              try clear c13
              try clear c14
              try clear c14b0
              try clear c15
              try clear c15b0
              try clear c16
              try clear c16b0
              try clear p2
              try clear p5
              try clear p6
              try clear q5
              obtain ⟨x7_2, x10_2, rfl, rfl, HA, HK2, ⟨m2, rfl⟩⟩ := hrel
              cases gk with
              | zero => exact absurd HA.out (by simp [spec_Character.l0])
              | succ k2 =>
                have H := HA.out
                clear HA
                simp only [spec_Character.l0] at H
                by_cases c17 : x10_2 ≤ x8_5
                · rw [if_pos c17] at H
                  have c17b0 : decide (x10_2 ≤ x8_5) = true := decide_eq_true c17
                  clear c17
                  obtain ⟨ji18, hji18⟩ : ∃ j_ : Int, (wrap64 (a1 + x10_2)) = j_ := ⟨_, rfl⟩
                  replace H : (if 0 ≤ (ji18) then (if (ji18) < (a0.size : Int) then (if (wrap64 (bt a0 (ji18))) < 128 then (some (65533, 1, false)) else (if (wrap64 (bt a0 (ji18))) > 191 then (some (65533, 1, false)) else (spec_Character.l0 k2 a0 a1 (wrap64 ((wrap64 ((wrap64 (x7_2 * 64)) + (wrap64 (bt a0 (ji18))))) - 128)) x8_5 x9_5 (wrap64 (x10_2 + 1))))) else (none)) else (none)) = some (r1, r2, r3) := by first | (rw [hji18] at H; exact H) | (simp only [hji18] at H ⊢; exact H)
                  have hji18w : (IntKind.i64.wrap (a1 + x10_2)) = ji18 := (i64_w _).trans hji18
                  by_cases c19 : 0 ≤ (ji18)
                  · rw [if_pos c19] at H
                    have c19b0 : decide (0 ≤ (ji18)) = true := decide_eq_true c19
                    clear c19
                    by_cases c20 : (ji18) < (a0.size : Int)
                    · rw [if_pos c20] at H
                      have c20b0 : decide ((ji18) < (a0.size : Int)) = true := decide_eq_true c20
                      clear c20
                      by_cases c22 : (wrap64 (bt a0 (ji18))) < 128
                      · rw [if_pos c22] at H
                        have c22b0 : decide ((wrap64 (bt a0 (ji18))) < 128) = true := decide_eq_true c22
                        clear c22
                        simp only [Option.some.injEq, Prod.mk.injEq] at H
                        obtain ⟨rfl, rfl, rfl⟩ := H
                        have p21 : 0 ≤ ((ji18) : Int) := of_decide_eq_true (by first | (with_reducible assumption) | assumption)
                        have q21 : (ji18) < (a0.size : Int) := of_decide_eq_true (by first | (with_reducible assumption) | assumption)
                        have hx21 := bt_at a0 (ji18)
                        replace p21 := eq_true p21
                        replace q21 := eq_true q21
                        go_wp2
                        go_ret3
                        exact ⟨by first | rfl | (simp; done) | (simp only [← hji18] <;> (first | rfl | (simp; done))) | (simp [*]; done) | (simp only [*]; done), by repeat (first | exact Drawn0.refl _ | apply Drawn0.step)⟩
                      · rw [if_neg c22] at H
                        have c22b0 : decide ((wrap64 (bt a0 (ji18))) < 128) = false := decide_eq_false c22
                        clear c22
                        by_cases c23 : (wrap64 (bt a0 (ji18))) > 191
                        · rw [if_pos c23] at H
                          have c23b0 : decide (191 < (wrap64 (bt a0 (ji18)))) = true := decide_eq_true c23
                          clear c23
                          simp only [Option.some.injEq, Prod.mk.injEq] at H
                          obtain ⟨rfl, rfl, rfl⟩ := H
                          have p21 : 0 ≤ ((ji18) : Int) := of_decide_eq_true (by first | (with_reducible assumption) | assumption)
                          have q21 : (ji18) < (a0.size : Int) := of_decide_eq_true (by first | (with_reducible assumption) | assumption)
                          have hx21 := bt_at a0 (ji18)
                          replace p21 := eq_true p21
                          replace q21 := eq_true q21
                          go_wp2
                          go_ret3
                          exact ⟨by first | rfl | (simp; done) | (simp only [← hji18] <;> (first | rfl | (simp; done))) | (simp [*]; done) | (simp only [*]; done), by repeat (first | exact Drawn0.refl _ | apply Drawn0.step)⟩
                        · rw [if_neg c23] at H
                          have c23b0 : decide (191 < (wrap64 (bt a0 (ji18)))) = false := decide_eq_false c23
                          clear c23
                          have H' := Aside0.mk H
                          clear H
                          have p21 : 0 ≤ ((ji18) : Int) := of_decide_eq_true (by first | (with_reducible assumption) | assumption)
                          have q21 : (ji18) < (a0.size : Int) := of_decide_eq_true (by first | (with_reducible assumption) | assumption)
                          have hx21 := bt_at a0 (ji18)
                          replace p21 := eq_true p21
                          replace q21 := eq_true q21
                          go_wp2
                          go_roundg k2
                          case measure => have := HJ5.out; have := HK2.out; omega
                          case rel => exact ⟨(wrap64 ((wrap64 ((wrap64 (x7_2 * 64)) + (wrap64 (bt a0 (ji18))))) - 128)), (wrap64 (x10_2 + 1)), (by first | rfl | (simp; done) | (simp only [← hji18] <;> (first | rfl | (simp; done))) | (simp [*]; done) | (simp only [*]; done)), (by first | rfl | (simp; done) | (simp [*]; done)), H', ⟨by have := HJ5.out; have := HK2.out; omega⟩, by repeat (first | exact Drawn0.refl _ | apply Drawn0.step)⟩
                    · rw [if_neg c20] at H
                      exact absurd H (by simp)
                  · rw [if_neg c19] at H
                    exact absurd H (by simp)
                · rw [if_neg c17] at H
                  have c17b0 : decide (x10_2 ≤ x8_5) = false := decide_eq_false c17
                  clear c17
                  by_cases c24 : x7_2 < x9_5
                  · rw [if_pos c24] at H
                    have c24b0 : decide (x7_2 < x9_5) = true := decide_eq_true c24
                    clear c24
                    simp only [Option.some.injEq, Prod.mk.injEq] at H
                    obtain ⟨rfl, rfl, rfl⟩ := H
                    go_wp2
                    go_ret3
                    exact ⟨by first | rfl | (simp; done) | (simp [*]; done), by repeat (first | exact Drawn0.refl _ | apply Drawn0.step)⟩
                  · rw [if_neg c24] at H
                    have c24b0 : decide (x7_2 < x9_5) = false := decide_eq_false c24
                    clear c24
                    by_cases c25 : x7_2 > 1114111
                    · rw [if_pos c25] at H
                      have c25b0 : decide (1114111 < x7_2) = true := decide_eq_true c25
                      clear c25
                      simp only [Option.some.injEq, Prod.mk.injEq] at H
                      obtain ⟨rfl, rfl, rfl⟩ := H
                      go_wp2
                      go_ret3
                      exact ⟨by first | rfl | (simp; done) | (simp [*]; done), by repeat (first | exact Drawn0.refl _ | apply Drawn0.step)⟩
                    · rw [if_neg c25] at H
                      have c25b0 : decide (1114111 < x7_2) = false := decide_eq_false c25
                      clear c25
                      replace H := Option.bind_eq_some_iff.mp H
                      obtain ⟨t101, A260, H⟩ := H
                      replace H : (if t101 = true then (some (65533, 1, false)) else ((spec_low.f x7_2).bind fun t102 => (if t102 = true then (some (65533, 1, false)) else (some (x7_2, wrap64 (x8_5 + 1), true))))) = some (r1, r2, r3) := H
                      have A26 := Aside0.mk A260
                      clear A260
                      by_cases c27 : t101 = true
                      · subst c27
                        have H1 : (some (65533, 1, false)) = some (r1, r2, r3) := by rw [if_pos rfl] at H; exact H
                        clear H
                        have H := H1
                        clear H1
                        simp only [Option.some.injEq, Prod.mk.injEq] at H
                        obtain ⟨rfl, rfl, rfl⟩ := H
                        go_wp2_with (first | (go_at_call 25; (with_reducible refine (spec_high.calls x7_2 true _ A26.out).mono ?_); rintro e w' ⟨rfl, ⟨nd, rfl⟩⟩))
                        go_ret3
                        exact ⟨by first | rfl | (simp; done) | (simp [*]; done), by repeat (first | exact Drawn0.refl _ | apply Drawn0.step)⟩
                      · replace c27 := Bool.eq_false_iff.mpr c27
                        subst c27
                        have H1 : ((spec_low.f x7_2).bind fun t102 => (if t102 = true then (some (65533, 1, false)) else (some (x7_2, wrap64 (x8_5 + 1), true)))) = some (r1, r2, r3) := by rw [if_neg (show ¬ (false = true) by decide)] at H; exact H
                        clear H
                        have H := H1
                        clear H1
                        replace H := Option.bind_eq_some_iff.mp H
                        obtain ⟨t102, A280, H⟩ := H
                        replace H : (if t102 = true then (some (65533, 1, false)) else (some (x7_2, wrap64 (x8_5 + 1), true))) = some (r1, r2, r3) := H
                        have A28 := Aside0.mk A280
                        clear A280
                        by_cases c29 : t102 = true
                        · subst c29
                          have H1 : (some (65533, 1, false)) = some (r1, r2, r3) := by rw [if_pos rfl] at H; exact H
                          clear H
                          have H := H1
                          clear H1
                          simp only [Option.some.injEq, Prod.mk.injEq] at H
                          obtain ⟨rfl, rfl, rfl⟩ := H
                          go_wp2_with (first | (go_at_call 25; (with_reducible refine (spec_high.calls x7_2 false _ A26.out).mono ?_); rintro e w' ⟨rfl, ⟨nd, rfl⟩⟩) | (go_at_call 26; (with_reducible refine (spec_low.calls x7_2 true _ A28.out).mono ?_); rintro e w' ⟨rfl, ⟨nd, rfl⟩⟩))
                          go_ret3
                          exact ⟨by first | rfl | (simp; done) | (simp [*]; done), by repeat (first | exact Drawn0.refl _ | apply Drawn0.step)⟩
                        · replace c29 := Bool.eq_false_iff.mpr c29
                          subst c29
                          have H1 : (some (x7_2, wrap64 (x8_5 + 1), true)) = some (r1, r2, r3) := by rw [if_neg (show ¬ (false = true) by decide)] at H; exact H
                          clear H
                          have H := H1
                          clear H1
                          simp only [Option.some.injEq, Prod.mk.injEq] at H
                          obtain ⟨rfl, rfl, rfl⟩ := H
                          go_wp2_with (first | (go_at_call 25; (with_reducible refine (spec_high.calls x7_2 false _ A26.out).mono ?_); rintro e w' ⟨rfl, ⟨nd, rfl⟩⟩) | (go_at_call 26; (with_reducible refine (spec_low.calls x7_2 false _ A28.out).mono ?_); rintro e w' ⟨rfl, ⟨nd, rfl⟩⟩))
                          go_ret3
                          exact ⟨by first | rfl | (simp; done) | (simp [*]; done), by repeat (first | exact Drawn0.refl _ | apply Drawn0.step)⟩
    · rw [if_neg c4] at H
      exact absurd H (by simp)
  · rw [if_neg c3] at H
    exact absurd H (by simp)


/-! ### spec_Characters: function 12 -/
def spec_Characters.l0 : Nat → ByteArray → List Int → Int → Option (List Int × Bool)
  | 0, _, _, _ => none
  | k + 1, x0, x4, x5 => if x5 < (x0.size : Int) then ((spec_Character.f k x0 x5).bind fun bt103 => (if bt103.2.2 = true then (if x4.length < 17592186044416 then (spec_Characters.l0 k x0 (x4 ++ [bt103.1]) (wrap64 (x5 + bt103.2.1))) else (none)) else (some (([] : List Int), false)))) else (some (x4, true))
def spec_Characters.f (k : Nat) (a0 : ByteArray) : Option (List Int × Bool) := spec_Characters.l0 k a0 ([] : List Int) 0
theorem spec_Characters.mono_l : ∀ k, (∀ y0 y1 y2, LeO (spec_Characters.l0 k y0 y1 y2) (spec_Characters.l0 (k + 1) y0 y1 y2))
  | 0 => fun _ _ _ r h => by simp [spec_Characters.l0] at h
  | k + 1 => by
    have ih0 := spec_Characters.mono_l k
    · intro y0 y1 y2
      unfold spec_Characters.l0
      repeat' first
      | (with_reducible exact ih0 _ _ _)
      | (with_reducible exact spec_Character.mono _ _ _)
      | (with_reducible exact LeO.refl _)
      | (with_reducible exact LeO.none _)
      | (with_reducible refine LeO.ite ?_ ?_)
      | (with_reducible refine LeO.bind ?_ (fun _ => ?_))
      | exact ih0 _ _ _
      | exact spec_Character.mono _ _ _
      | exact LeO.none _
      | refine LeO.ite ?_ ?_
      | refine LeO.bind ?_ (fun _ => ?_)
theorem spec_Characters.mono : ∀ a0 k, LeO (spec_Characters.f k a0) (spec_Characters.f (k + 1) a0) := by
  intro a0 k
  have ih0 := spec_Characters.mono_l k
  unfold spec_Characters.f
  repeat' first
      | (with_reducible exact ih0 _ _ _)
      | (with_reducible exact spec_Character.mono _ _ _)
      | (with_reducible exact LeO.refl _)
      | (with_reducible exact LeO.none _)
      | (with_reducible refine LeO.ite ?_ ?_)
      | (with_reducible refine LeO.bind ?_ (fun _ => ?_))
      | exact ih0 _ _ _
      | exact spec_Character.mono _ _ _
      | exact LeO.none _
      | refine LeO.ite ?_ ?_
      | refine LeO.bind ?_ (fun _ => ?_)
set_option maxHeartbeats 8000000 in
set_option maxRecDepth 100000 in
theorem spec_Characters.calls (k : Nat) (a0 : ByteArray) (r1 : List Int) (r2 : Bool) (w : World) (h : spec_Characters.f k a0 = some (r1, r2)) :
    Calls Tryz.prog 12 #[.string a0] w fun e w' => ∃ v0_ : Value, e = .returned (.tuple #[v0_, .bool r2]) ∧ Kd.R (Kd.int .i64) 3 w' w.heap.size (fun _ => True) v0_ r1 ∧ Below w.heap.size w w' := by
  have HB := Aside0.mk (Below.refl w.heap.size w)
  have H : (spec_Characters.l0 k a0 ([] : List Int) 0) = some (r1, r2) := h
  clear h
  have H' := Aside0.mk H
  clear H
  go_enter Tryz.func12, Tryz.ntmps12
  go_wp2
  (try simp only [Act.put, List.setIfInBounds_toArray, List.set_cons_zero, List.set_cons_succ])
  go_loopg [4, 5] k (fun kq v4 v5 w' => ∃ (x4_1 : List Int) (x5_1 : Int), v5 = .int .i64 x5_1 ∧ Aside0 (spec_Characters.l0 kq a0 x4_1 x5_1 = some (r1, r2)) ∧ Aside0 (kq ≤ k) ∧ Aside0 (Kd.R (Kd.int .i64) 3 w' w.heap.size (fun _ => True) v4 x4_1) ∧ Aside0 (Below w.heap.size w w'))
  case atStart => exact ⟨(([] : List Int)), (0), (by first | rfl | (simp; done) | (simp [*]; done)), H', ⟨Nat.le_refl _⟩, ⟨by first | exact Kd.R_nil _ _ _ _ _ | exact Kd.N_nil _ _ _ _ _ | exact Kd.V_nil _ _ _ _ _ | exact Kd.Q_nil _ _ _ _ _ | exact Kd.S_nil _ _ _ _ _⟩, ⟨by repeat (first | (with_reducible first | exact HB.out | apply below_alloc | apply pw_below_drewN | apply below_drew1) | exact HB.out)⟩⟩
  case round =>
    clear H'
    try clear c1
    obtain ⟨x4_1, x5_1, rfl, HA, HK1, HO_4, HB⟩ := hrel
    cases gk with
    | zero => exact absurd HA.out (by simp [spec_Characters.l0])
    | succ k1 =>
      have H := HA.out
      clear HA
      simp only [spec_Characters.l0] at H
      by_cases c2 : x5_1 < (a0.size : Int)
      · rw [if_pos c2] at H
        have c2b0 : decide (x5_1 < (a0.size : Int)) = true := decide_eq_true c2
        clear c2
        replace H := Option.bind_eq_some_iff.mp H
        obtain ⟨⟨t103, t104, t105⟩, A30, H⟩ := H
        replace H : (if t105 = true then (if x4_1.length < 17592186044416 then (spec_Characters.l0 k1 a0 (x4_1 ++ [t103]) (wrap64 (x5_1 + t104))) else (none)) else (some (([] : List Int), false))) = some (r1, r2) := H
        have A3 := Aside0.mk A30
        clear A30
        by_cases c4 : t105 = true
        · subst c4
          have H1 : (if x4_1.length < 17592186044416 then (spec_Characters.l0 k1 a0 (x4_1 ++ [t103]) (wrap64 (x5_1 + t104))) else (none)) = some (r1, r2) := by rw [if_pos rfl] at H; exact H
          clear H
          have H := H1
          clear H1
          by_cases c5 : x4_1.length < 17592186044416
          · rw [if_pos c5] at H
            have LMc5 := Aside0.mk c5
            clear c5
            obtain ⟨y106, hy106⟩ : ∃ y_ : List Int, y_ = (x4_1 ++ [t103]) := ⟨_, rfl⟩
            replace H : (spec_Characters.l0 k1 a0 y106 (wrap64 (x5_1 + t104))) = some (r1, r2) := by first | (rw [hy106]; with_reducible exact H) | (have H2_ := (Option.bind_some _ _).symm.trans H; rw [hy106]; with_reducible exact H2_) | (have H2_ := (Option.bind_some _ _).symm.trans H; with_reducible exact H2_) | with_reducible exact H | (rw [hy106]; exact H) | exact H
            have Ny106 := Aside0.mk hy106
            clear hy106
            have H' := Aside0.mk H
            clear H
            go_wp2_with (first | ((with_reducible refine gate_callee (f := 18) rfl ?_); refine goesL_ (some 16) rfl rfl Tryz.func18 (by kernel_rfl) rfl #[.string a0, .int .i64 x5_1] rfl (by (try simp only [List.map_toArray, List.map_cons, List.map_nil]); first | done | rfl | (simp only [List.length_drop, List.length_take]; rfl)) ?_; (with_reducible refine (spec_Character.calls k1 a0 x5_1 t103 t104 true _ A3.out).mono ?_); rintro e w' ⟨rfl, ⟨nd, rfl⟩⟩; refine ⟨_, rfl, ?_⟩) | ((with_reducible refine gate_builtin (b := .append) (xs := #[.tmp 22, .tmp 24]) rfl ?_); at_builtin; refine Kd.R_append (Kd.int .i64) (w0 := w) w.heap.size rfl (.tmp 22) (.tmp 24) 33 3 (.int .i64 0) 8 rfl Tryz.underlying33 info3 rfl (by decide) (by omega) u4 x4_1 t103 [.int .i64 t103] (fun _ => True) (fun _ => False) rfl rfl ?aP (fun _ hk => hk.elim) ?aF ?aO ?aB ?aS ?aL ?_; (case aP => exact rfl); (case aB => exact (by repeat (first | (with_reducible first | exact HB.out | apply below_alloc | apply pw_below_drewN | apply below_drew1) | exact HB.out))); (case aF => exact (fun _ _ => trivial)); (case aO => exact (by (with_reducible repeat (first | apply Kd.R_alloc | apply Kd.R_drewN | apply Kd.R_drew)); exact HO_4.out)); (case aS => exact (below_size (by repeat (first | (with_reducible first | exact HB.out | apply below_alloc | apply pw_below_drewN | apply below_drew1) | exact HB.out)))); (case aL => have := LMc5.out; omega); intro v107 w6 ho hb hg hat; rw [← Ny106.out] at ho; have n0_ := Aside0.mk (hb); have n1_ := Aside0.mk (ho); clear HB; clear HO_4; have HB := n0_; have HO108 := n1_; clear n0_ n1_; clear ho hb hg hat))
            go_roundg k1
            case measure => have := HK1.out; omega
            case rel => exact ⟨(y106), (wrap64 (x5_1 + t104)), (by first | rfl | (simp; done) | (simp [*]; done)), H', ⟨by have := HK1.out; omega⟩, ⟨by (with_reducible repeat (first | apply Kd.R_alloc | apply Kd.R_drewN | apply Kd.R_drew)); exact HO108.out⟩, ⟨by repeat (first | (with_reducible first | exact HB.out | apply below_alloc | apply pw_below_drewN | apply below_drew1) | exact HB.out)⟩⟩
          · rw [if_neg c5] at H
            exact absurd H (by simp)
        · replace c4 := Bool.eq_false_iff.mpr c4
          subst c4
          have H1 : (some (([] : List Int), false)) = some (r1, r2) := by rw [if_neg (show ¬ (false = true) by decide)] at H; exact H
          clear H
          have H := H1
          clear H1
          simp only [Option.some.injEq, Prod.mk.injEq] at H
          obtain ⟨rfl, rfl⟩ := H
          go_wp2_with (first | ((with_reducible refine gate_callee (f := 18) rfl ?_); refine goesL_ (some 16) rfl rfl Tryz.func18 (by kernel_rfl) rfl #[.string a0, .int .i64 x5_1] rfl (by (try simp only [List.map_toArray, List.map_cons, List.map_nil]); first | done | rfl | (simp only [List.length_drop, List.length_take]; rfl)) ?_; (with_reducible refine (spec_Character.calls k1 a0 x5_1 t103 t104 false _ A3.out).mono ?_); rintro e w' ⟨rfl, ⟨nd, rfl⟩⟩; refine ⟨_, rfl, ?_⟩))
          go_ret2
          exact ⟨_, by first | rfl | (simp [errW_none, errW_some] <;> rfl) | (simp [*, errW_none, errW_some] <;> rfl), by first | exact Kd.R_nil _ _ _ _ _ | exact Kd.N_nil _ _ _ _ _ | exact Kd.V_nil _ _ _ _ _ | exact Kd.Q_nil _ _ _ _ _ | exact Kd.S_nil _ _ _ _ _, by repeat (first | (with_reducible first | exact HB.out | apply below_alloc | apply pw_below_drewN | apply below_drew1) | exact HB.out)⟩
      · rw [if_neg c2] at H
        have c2b0 : decide (x5_1 < (a0.size : Int)) = false := decide_eq_false c2
        clear c2
        simp only [Option.some.injEq, Prod.mk.injEq] at H
        obtain ⟨rfl, rfl⟩ := H
        go_wp2
        go_ret2
        exact ⟨_, by first | rfl | (simp [errW_none, errW_some] <;> rfl) | (simp [*, errW_none, errW_some] <;> rfl), by (with_reducible repeat (first | apply Kd.R_alloc | apply Kd.R_drewN | apply Kd.R_drew)); exact HO_4.out, by repeat (first | (with_reducible first | exact HB.out | apply below_alloc | apply pw_below_drewN | apply below_drew1) | exact HB.out)⟩


/-! ### spec_Globs: function 13 -/
def spec_Globs.l0 : Nat → ByteArray → List (S56) → Int → Option ((List (S56)) × Bool)
  | 0, _, _, _ => none
  | k + 1, x0, x4, x5 => if x5 < (x0.size : Int) then ((spec_Character.f k x0 x5).bind fun bt109 => (if bt109.2.2 = true then (if bt109.1 = 42 then (if x4.length < 8796093022208 then (spec_Globs.l0 k x0 (x4 ++ [(⟨true, false, 0⟩ : S56)]) (wrap64 (x5 + bt109.2.1))) else (none)) else (if bt109.1 = 63 then (if x4.length < 8796093022208 then (spec_Globs.l0 k x0 (x4 ++ [(⟨false, true, 0⟩ : S56)]) (wrap64 (x5 + bt109.2.1))) else (none)) else (if bt109.1 = 92 then (if (wrap64 (x5 + bt109.2.1)) = (x0.size : Int) then (some (([] : List (S56)), false)) else ((spec_Character.f k x0 (wrap64 (x5 + bt109.2.1))).bind fun bt118 => (if bt118.2.2 = true then (if x4.length < 8796093022208 then (spec_Globs.l0 k x0 (x4 ++ [(⟨false, false, bt118.1⟩ : S56)]) (wrap64 ((wrap64 (x5 + bt109.2.1)) + bt118.2.1))) else (none)) else (some (([] : List (S56)), false))))) else (if x4.length < 8796093022208 then (spec_Globs.l0 k x0 (x4 ++ [(⟨false, false, bt109.1⟩ : S56)]) (wrap64 (x5 + bt109.2.1))) else (none))))) else (some (([] : List (S56)), false)))) else (some (x4, true))
def spec_Globs.f (k : Nat) (a0 : ByteArray) : Option ((List (S56)) × Bool) := spec_Globs.l0 k a0 ([] : List (S56)) 0
theorem spec_Globs.mono_l : ∀ k, (∀ y0 y1 y2, LeO (spec_Globs.l0 k y0 y1 y2) (spec_Globs.l0 (k + 1) y0 y1 y2))
  | 0 => fun _ _ _ r h => by simp [spec_Globs.l0] at h
  | k + 1 => by
    have ih0 := spec_Globs.mono_l k
    · intro y0 y1 y2
      unfold spec_Globs.l0
      repeat' first
      | (with_reducible exact ih0 _ _ _)
      | (with_reducible exact spec_Character.mono _ _ _)
      | (with_reducible exact LeO.refl _)
      | (with_reducible exact LeO.none _)
      | (with_reducible refine LeO.ite ?_ ?_)
      | (with_reducible refine LeO.bind ?_ (fun _ => ?_))
      | exact ih0 _ _ _
      | exact spec_Character.mono _ _ _
      | exact LeO.none _
      | refine LeO.ite ?_ ?_
      | refine LeO.bind ?_ (fun _ => ?_)
theorem spec_Globs.mono : ∀ a0 k, LeO (spec_Globs.f k a0) (spec_Globs.f (k + 1) a0) := by
  intro a0 k
  have ih0 := spec_Globs.mono_l k
  unfold spec_Globs.f
  repeat' first
      | (with_reducible exact ih0 _ _ _)
      | (with_reducible exact spec_Character.mono _ _ _)
      | (with_reducible exact LeO.refl _)
      | (with_reducible exact LeO.none _)
      | (with_reducible refine LeO.ite ?_ ?_)
      | (with_reducible refine LeO.bind ?_ (fun _ => ?_))
      | exact ih0 _ _ _
      | exact spec_Character.mono _ _ _
      | exact LeO.none _
      | refine LeO.ite ?_ ?_
      | refine LeO.bind ?_ (fun _ => ?_)
set_option maxHeartbeats 8000000 in
set_option maxRecDepth 100000 in
theorem spec_Globs.calls (k : Nat) (a0 : ByteArray) (r1 : List (S56)) (r2 : Bool) (w : World) (h : spec_Globs.f k a0 = some (r1, r2)) :
    Calls Tryz.prog 13 #[.string a0] w fun e w' => ∃ v0_ : Value, e = .returned (.tuple #[v0_, .bool r2]) ∧ Kd.R k56 56 w' w.heap.size (fun _ => True) v0_ r1 ∧ Below w.heap.size w w' := by
  have hu56 := Tryz.underlying56
  have HB := Aside0.mk (Below.refl w.heap.size w)
  have H : (spec_Globs.l0 k a0 ([] : List (S56)) 0) = some (r1, r2) := h
  clear h
  have H' := Aside0.mk H
  clear H
  go_enter Tryz.func13, Tryz.ntmps13
  go_wp2
  (try simp only [Act.put, List.setIfInBounds_toArray, List.set_cons_zero, List.set_cons_succ])
  go_loopg [4, 5] k (fun kq v4 v5 w' => ∃ (x4_1 : List (S56)) (x5_1 : Int), v5 = .int .i64 x5_1 ∧ Aside0 (spec_Globs.l0 kq a0 x4_1 x5_1 = some (r1, r2)) ∧ Aside0 (kq ≤ k) ∧ Aside0 (Kd.R k56 56 w' w.heap.size (fun _ => True) v4 x4_1) ∧ Aside0 (Below w.heap.size w w'))
  case atStart => exact ⟨(([] : List (S56))), (0), (by first | rfl | (simp; done) | (simp [*]; done)), H', ⟨Nat.le_refl _⟩, ⟨by first | exact Kd.R_nil _ _ _ _ _ | exact Kd.N_nil _ _ _ _ _ | exact Kd.V_nil _ _ _ _ _ | exact Kd.Q_nil _ _ _ _ _ | exact Kd.S_nil _ _ _ _ _⟩, ⟨by repeat (first | (with_reducible first | exact HB.out | apply below_alloc | apply pw_below_drewN | apply below_drew1) | exact HB.out)⟩⟩
  case round =>
    clear H'
    try clear c1
    obtain ⟨x4_1, x5_1, rfl, HA, HK1, HO_4, HB⟩ := hrel
    cases gk with
    | zero => exact absurd HA.out (by simp [spec_Globs.l0])
    | succ k1 =>
      have H := HA.out
      clear HA
      simp only [spec_Globs.l0] at H
      by_cases c2 : x5_1 < (a0.size : Int)
      · rw [if_pos c2] at H
        have c2b0 : decide (x5_1 < (a0.size : Int)) = true := decide_eq_true c2
        clear c2
        replace H := Option.bind_eq_some_iff.mp H
        obtain ⟨⟨t109, t110, t111⟩, A30, H⟩ := H
        replace H : (if t111 = true then (if t109 = 42 then (if x4_1.length < 8796093022208 then (spec_Globs.l0 k1 a0 (x4_1 ++ [(⟨true, false, 0⟩ : S56)]) (wrap64 (x5_1 + t110))) else (none)) else (if t109 = 63 then (if x4_1.length < 8796093022208 then (spec_Globs.l0 k1 a0 (x4_1 ++ [(⟨false, true, 0⟩ : S56)]) (wrap64 (x5_1 + t110))) else (none)) else (if t109 = 92 then (if (wrap64 (x5_1 + t110)) = (a0.size : Int) then (some (([] : List (S56)), false)) else ((spec_Character.f k1 a0 (wrap64 (x5_1 + t110))).bind fun bt118 => (if bt118.2.2 = true then (if x4_1.length < 8796093022208 then (spec_Globs.l0 k1 a0 (x4_1 ++ [(⟨false, false, bt118.1⟩ : S56)]) (wrap64 ((wrap64 (x5_1 + t110)) + bt118.2.1))) else (none)) else (some (([] : List (S56)), false))))) else (if x4_1.length < 8796093022208 then (spec_Globs.l0 k1 a0 (x4_1 ++ [(⟨false, false, t109⟩ : S56)]) (wrap64 (x5_1 + t110))) else (none))))) else (some (([] : List (S56)), false))) = some (r1, r2) := H
        have A3 := Aside0.mk A30
        clear A30
        by_cases c4 : t111 = true
        · subst c4
          have H1 : (if t109 = 42 then (if x4_1.length < 8796093022208 then (spec_Globs.l0 k1 a0 (x4_1 ++ [(⟨true, false, 0⟩ : S56)]) (wrap64 (x5_1 + t110))) else (none)) else (if t109 = 63 then (if x4_1.length < 8796093022208 then (spec_Globs.l0 k1 a0 (x4_1 ++ [(⟨false, true, 0⟩ : S56)]) (wrap64 (x5_1 + t110))) else (none)) else (if t109 = 92 then (if (wrap64 (x5_1 + t110)) = (a0.size : Int) then (some (([] : List (S56)), false)) else ((spec_Character.f k1 a0 (wrap64 (x5_1 + t110))).bind fun bt118 => (if bt118.2.2 = true then (if x4_1.length < 8796093022208 then (spec_Globs.l0 k1 a0 (x4_1 ++ [(⟨false, false, bt118.1⟩ : S56)]) (wrap64 ((wrap64 (x5_1 + t110)) + bt118.2.1))) else (none)) else (some (([] : List (S56)), false))))) else (if x4_1.length < 8796093022208 then (spec_Globs.l0 k1 a0 (x4_1 ++ [(⟨false, false, t109⟩ : S56)]) (wrap64 (x5_1 + t110))) else (none))))) = some (r1, r2) := by rw [if_pos rfl] at H; exact H
          clear H
          have H := H1
          clear H1
          by_cases c5 : t109 = 42
          · rw [if_pos c5] at H
            have c5b0 : (t109 == 42) = true := beq_iff_eq.mpr c5
            have c5b1 : (t109 != 42) = false := bne_eq_false_iff_eq.mpr c5
            clear c5
            by_cases c6 : x4_1.length < 8796093022208
            · rw [if_pos c6] at H
              have LMc6 := Aside0.mk c6
              clear c6
              obtain ⟨y112, hy112⟩ : ∃ y_ : List (S56), y_ = (x4_1 ++ [(⟨true, false, 0⟩ : S56)]) := ⟨_, rfl⟩
              replace H : (spec_Globs.l0 k1 a0 y112 (wrap64 (x5_1 + t110))) = some (r1, r2) := by first | (rw [hy112]; with_reducible exact H) | (have H2_ := (Option.bind_some _ _).symm.trans H; rw [hy112]; with_reducible exact H2_) | (have H2_ := (Option.bind_some _ _).symm.trans H; with_reducible exact H2_) | with_reducible exact H | (rw [hy112]; exact H) | exact H
              have Ny112 := Aside0.mk hy112
              clear hy112
              have H' := Aside0.mk H
              clear H
              go_wp2_with (first | ((with_reducible refine gate_callee (f := 18) rfl ?_); refine goesL_ (some 16) rfl rfl Tryz.func18 (by kernel_rfl) rfl #[.string a0, .int .i64 x5_1] rfl (by (try simp only [List.map_toArray, List.map_cons, List.map_nil]); first | done | rfl | (simp only [List.length_drop, List.length_take]; rfl)) ?_; (with_reducible refine (spec_Character.calls k1 a0 x5_1 t109 t110 true _ A3.out).mono ?_); rintro e w' ⟨rfl, ⟨nd, rfl⟩⟩; refine ⟨_, rfl, ?_⟩) | ((with_reducible refine gate_builtin (b := .append) (xs := #[.tmp 33, .tmp 35]) rfl ?_); at_builtin; refine Kd.R_append k56 (w0 := w) w.heap.size rfl (.tmp 33) (.tmp 35) 40 56 (.agg #[(.bool false), (.bool false), (.int .i64 0)]) 16 rfl Tryz.underlying40 info56 rfl (by decide) (by omega) u4 x4_1 (⟨true, false, 0⟩ : S56) [.bool true, .bool false, .int .i64 0] (fun _ => True) (fun _ => False) rfl rfl ?aP (fun _ hk => hk.elim) ?aF ?aO ?aB ?aS ?aL ?_; (case aP => exact k56_mkM _ _ _ (⟨true, false, 0⟩ : S56)); (case aB => exact (by repeat (first | (with_reducible first | exact HB.out | apply below_alloc | apply pw_below_drewN | apply below_drew1) | exact HB.out))); (case aF => exact (fun _ _ => trivial)); (case aO => exact (by (with_reducible repeat (first | apply Kd.R_alloc | apply Kd.R_drewN | apply Kd.R_drew)); exact HO_4.out)); (case aS => exact (below_size (by repeat (first | (with_reducible first | exact HB.out | apply below_alloc | apply pw_below_drewN | apply below_drew1) | exact HB.out)))); (case aL => have := LMc6.out; omega); intro v113 w7 ho hb hg hat; rw [← Ny112.out] at ho; have n0_ := Aside0.mk (hb); have n1_ := Aside0.mk (ho); clear HB; clear HO_4; have HB := n0_; have HO114 := n1_; clear n0_ n1_; clear ho hb hg hat))
              go_roundg k1
              case measure => have := HK1.out; omega
              case rel => exact ⟨(y112), (wrap64 (x5_1 + t110)), (by first | rfl | (simp; done) | (simp [*]; done)), H', ⟨by have := HK1.out; omega⟩, ⟨by (with_reducible repeat (first | apply Kd.R_alloc | apply Kd.R_drewN | apply Kd.R_drew)); exact HO114.out⟩, ⟨by repeat (first | (with_reducible first | exact HB.out | apply below_alloc | apply pw_below_drewN | apply below_drew1) | exact HB.out)⟩⟩
            · rw [if_neg c6] at H
              exact absurd H (by simp)
          · rw [if_neg c5] at H
            have c5b0 : (t109 == 42) = false := beq_eq_false_iff_ne.mpr c5
            have c5b1 : (t109 != 42) = true := bne_iff_ne.mpr c5
            by_cases c8 : t109 = 63
            · rw [if_pos c8] at H
              have c8b0 : (t109 == 63) = true := beq_iff_eq.mpr c8
              have c8b1 : (t109 != 63) = false := bne_eq_false_iff_eq.mpr c8
              clear c8
              by_cases c9 : x4_1.length < 8796093022208
              · rw [if_pos c9] at H
                have LMc9 := Aside0.mk c9
                clear c9
                obtain ⟨y115, hy115⟩ : ∃ y_ : List (S56), y_ = (x4_1 ++ [(⟨false, true, 0⟩ : S56)]) := ⟨_, rfl⟩
                replace H : (spec_Globs.l0 k1 a0 y115 (wrap64 (x5_1 + t110))) = some (r1, r2) := by first | (rw [hy115]; with_reducible exact H) | (have H2_ := (Option.bind_some _ _).symm.trans H; rw [hy115]; with_reducible exact H2_) | (have H2_ := (Option.bind_some _ _).symm.trans H; with_reducible exact H2_) | with_reducible exact H | (rw [hy115]; exact H) | exact H
                have Ny115 := Aside0.mk hy115
                clear hy115
                have H' := Aside0.mk H
                clear H
                go_wp2_with (first | ((with_reducible refine gate_callee (f := 18) rfl ?_); refine goesL_ (some 16) rfl rfl Tryz.func18 (by kernel_rfl) rfl #[.string a0, .int .i64 x5_1] rfl (by (try simp only [List.map_toArray, List.map_cons, List.map_nil]); first | done | rfl | (simp only [List.length_drop, List.length_take]; rfl)) ?_; (with_reducible refine (spec_Character.calls k1 a0 x5_1 t109 t110 true _ A3.out).mono ?_); rintro e w' ⟨rfl, ⟨nd, rfl⟩⟩; refine ⟨_, rfl, ?_⟩) | ((with_reducible refine gate_builtin (b := .append) (xs := #[.tmp 39, .tmp 41]) rfl ?_); at_builtin; refine Kd.R_append k56 (w0 := w) w.heap.size rfl (.tmp 39) (.tmp 41) 40 56 (.agg #[(.bool false), (.bool false), (.int .i64 0)]) 16 rfl Tryz.underlying40 info56 rfl (by decide) (by omega) u4 x4_1 (⟨false, true, 0⟩ : S56) [.bool false, .bool true, .int .i64 0] (fun _ => True) (fun _ => False) rfl rfl ?aP (fun _ hk => hk.elim) ?aF ?aO ?aB ?aS ?aL ?_; (case aP => exact k56_mkM _ _ _ (⟨false, true, 0⟩ : S56)); (case aB => exact (by repeat (first | (with_reducible first | exact HB.out | apply below_alloc | apply pw_below_drewN | apply below_drew1) | exact HB.out))); (case aF => exact (fun _ _ => trivial)); (case aO => exact (by (with_reducible repeat (first | apply Kd.R_alloc | apply Kd.R_drewN | apply Kd.R_drew)); exact HO_4.out)); (case aS => exact (below_size (by repeat (first | (with_reducible first | exact HB.out | apply below_alloc | apply pw_below_drewN | apply below_drew1) | exact HB.out)))); (case aL => have := LMc9.out; omega); intro v116 w10 ho hb hg hat; rw [← Ny115.out] at ho; have n0_ := Aside0.mk (hb); have n1_ := Aside0.mk (ho); clear HB; clear HO_4; have HB := n0_; have HO117 := n1_; clear n0_ n1_; clear ho hb hg hat))
                go_roundg k1
                case measure => have := HK1.out; omega
                case rel => exact ⟨(y115), (wrap64 (x5_1 + t110)), (by first | rfl | (simp; done) | (simp [*]; done)), H', ⟨by have := HK1.out; omega⟩, ⟨by (with_reducible repeat (first | apply Kd.R_alloc | apply Kd.R_drewN | apply Kd.R_drew)); exact HO117.out⟩, ⟨by repeat (first | (with_reducible first | exact HB.out | apply below_alloc | apply pw_below_drewN | apply below_drew1) | exact HB.out)⟩⟩
              · rw [if_neg c9] at H
                exact absurd H (by simp)
            · rw [if_neg c8] at H
              have c8b0 : (t109 == 63) = false := beq_eq_false_iff_ne.mpr c8
              have c8b1 : (t109 != 63) = true := bne_iff_ne.mpr c8
              by_cases c11 : t109 = 92
              · rw [if_pos c11] at H
                have c11b0 : (t109 == 92) = true := beq_iff_eq.mpr c11
                have c11b1 : (t109 != 92) = false := bne_eq_false_iff_eq.mpr c11
                clear c11
                by_cases c12 : (wrap64 (x5_1 + t110)) = (a0.size : Int)
                · rw [if_pos c12] at H
                  have c12b0 : ((wrap64 (x5_1 + t110)) == (a0.size : Int)) = true := beq_iff_eq.mpr c12
                  have c12b1 : ((wrap64 (x5_1 + t110)) != (a0.size : Int)) = false := bne_eq_false_iff_eq.mpr c12
                  clear c12
                  simp only [Option.some.injEq, Prod.mk.injEq] at H
                  obtain ⟨rfl, rfl⟩ := H
                  go_wp2_with (first | ((with_reducible refine gate_callee (f := 18) rfl ?_); refine goesL_ (some 16) rfl rfl Tryz.func18 (by kernel_rfl) rfl #[.string a0, .int .i64 x5_1] rfl (by (try simp only [List.map_toArray, List.map_cons, List.map_nil]); first | done | rfl | (simp only [List.length_drop, List.length_take]; rfl)) ?_; (with_reducible refine (spec_Character.calls k1 a0 x5_1 t109 t110 true _ A3.out).mono ?_); rintro e w' ⟨rfl, ⟨nd, rfl⟩⟩; refine ⟨_, rfl, ?_⟩))
                  go_ret2
                  exact ⟨_, by first | rfl | (simp [errW_none, errW_some] <;> rfl) | (simp [*, errW_none, errW_some] <;> rfl), by first | exact Kd.R_nil _ _ _ _ _ | exact Kd.N_nil _ _ _ _ _ | exact Kd.V_nil _ _ _ _ _ | exact Kd.Q_nil _ _ _ _ _ | exact Kd.S_nil _ _ _ _ _, by repeat (first | (with_reducible first | exact HB.out | apply below_alloc | apply pw_below_drewN | apply below_drew1) | exact HB.out)⟩
                · rw [if_neg c12] at H
                  have c12b0 : ((wrap64 (x5_1 + t110)) == (a0.size : Int)) = false := beq_eq_false_iff_ne.mpr c12
                  have c12b1 : ((wrap64 (x5_1 + t110)) != (a0.size : Int)) = true := bne_iff_ne.mpr c12
                  replace H := Option.bind_eq_some_iff.mp H
                  obtain ⟨⟨t118, t119, t120⟩, A130, H⟩ := H
                  replace H : (if t120 = true then (if x4_1.length < 8796093022208 then (spec_Globs.l0 k1 a0 (x4_1 ++ [(⟨false, false, t118⟩ : S56)]) (wrap64 ((wrap64 (x5_1 + t110)) + t119))) else (none)) else (some (([] : List (S56)), false))) = some (r1, r2) := H
                  have A13 := Aside0.mk A130
                  clear A130
                  by_cases c14 : t120 = true
                  · subst c14
                    have H1 : (if x4_1.length < 8796093022208 then (spec_Globs.l0 k1 a0 (x4_1 ++ [(⟨false, false, t118⟩ : S56)]) (wrap64 ((wrap64 (x5_1 + t110)) + t119))) else (none)) = some (r1, r2) := by rw [if_pos rfl] at H; exact H
                    clear H
                    have H := H1
                    clear H1
                    by_cases c15 : x4_1.length < 8796093022208
                    · rw [if_pos c15] at H
                      have LMc15 := Aside0.mk c15
                      clear c15
                      obtain ⟨y121, hy121⟩ : ∃ y_ : List (S56), y_ = (x4_1 ++ [(⟨false, false, t118⟩ : S56)]) := ⟨_, rfl⟩
                      replace H : (spec_Globs.l0 k1 a0 y121 (wrap64 ((wrap64 (x5_1 + t110)) + t119))) = some (r1, r2) := by first | (rw [hy121]; with_reducible exact H) | (have H2_ := (Option.bind_some _ _).symm.trans H; rw [hy121]; with_reducible exact H2_) | (have H2_ := (Option.bind_some _ _).symm.trans H; with_reducible exact H2_) | with_reducible exact H | (rw [hy121]; exact H) | exact H
                      have Ny121 := Aside0.mk hy121
                      clear hy121
                      have H' := Aside0.mk H
                      clear H
                      go_wp2_with (first | ((with_reducible refine gate_callee (f := 18) rfl ?_); refine goesL_ (some 16) rfl rfl Tryz.func18 (by kernel_rfl) rfl #[.string a0, .int .i64 x5_1] rfl (by (try simp only [List.map_toArray, List.map_cons, List.map_nil]); first | done | rfl | (simp only [List.length_drop, List.length_take]; rfl)) ?_; (with_reducible refine (spec_Character.calls k1 a0 x5_1 t109 t110 true _ A3.out).mono ?_); rintro e w' ⟨rfl, ⟨nd, rfl⟩⟩; refine ⟨_, rfl, ?_⟩) | ((with_reducible refine gate_callee (f := 18) rfl ?_); refine goesL_ (some 52) rfl rfl Tryz.func18 (by kernel_rfl) rfl #[.string a0, .int .i64 (wrap64 (x5_1 + t110))] rfl (by (try simp only [List.map_toArray, List.map_cons, List.map_nil]); first | done | rfl | (simp only [List.length_drop, List.length_take]; rfl)) ?_; (with_reducible refine (spec_Character.calls k1 a0 (wrap64 (x5_1 + t110)) t118 t119 true _ A13.out).mono ?_); rintro e w' ⟨rfl, ⟨nd, rfl⟩⟩; refine ⟨_, rfl, ?_⟩) | ((with_reducible refine gate_builtin (b := .append) (xs := #[.tmp 61, .tmp 64]) rfl ?_); at_builtin; refine Kd.R_append k56 (w0 := w) w.heap.size rfl (.tmp 61) (.tmp 64) 40 56 (.agg #[(.bool false), (.bool false), (.int .i64 0)]) 16 rfl Tryz.underlying40 info56 rfl (by decide) (by omega) u4 x4_1 (⟨false, false, t118⟩ : S56) [.bool false, .bool false, .int .i64 t118] (fun _ => True) (fun _ => False) rfl rfl ?aP (fun _ hk => hk.elim) ?aF ?aO ?aB ?aS ?aL ?_; (case aP => exact k56_mkM _ _ _ (⟨false, false, t118⟩ : S56)); (case aB => exact (by repeat (first | (with_reducible first | exact HB.out | apply below_alloc | apply pw_below_drewN | apply below_drew1) | exact HB.out))); (case aF => exact (fun _ _ => trivial)); (case aO => exact (by (with_reducible repeat (first | apply Kd.R_alloc | apply Kd.R_drewN | apply Kd.R_drew)); exact HO_4.out)); (case aS => exact (below_size (by repeat (first | (with_reducible first | exact HB.out | apply below_alloc | apply pw_below_drewN | apply below_drew1) | exact HB.out)))); (case aL => have := LMc15.out; omega); intro v122 w16 ho hb hg hat; rw [← Ny121.out] at ho; have n0_ := Aside0.mk (hb); have n1_ := Aside0.mk (ho); clear HB; clear HO_4; have HB := n0_; have HO123 := n1_; clear n0_ n1_; clear ho hb hg hat))
                      go_roundg k1
                      case measure => have := HK1.out; omega
                      case rel => exact ⟨(y121), (wrap64 ((wrap64 (x5_1 + t110)) + t119)), (by first | rfl | (simp; done) | (simp [*]; done)), H', ⟨by have := HK1.out; omega⟩, ⟨by (with_reducible repeat (first | apply Kd.R_alloc | apply Kd.R_drewN | apply Kd.R_drew)); exact HO123.out⟩, ⟨by repeat (first | (with_reducible first | exact HB.out | apply below_alloc | apply pw_below_drewN | apply below_drew1) | exact HB.out)⟩⟩
                    · rw [if_neg c15] at H
                      exact absurd H (by simp)
                  · replace c14 := Bool.eq_false_iff.mpr c14
                    subst c14
                    have H1 : (some (([] : List (S56)), false)) = some (r1, r2) := by rw [if_neg (show ¬ (false = true) by decide)] at H; exact H
                    clear H
                    have H := H1
                    clear H1
                    simp only [Option.some.injEq, Prod.mk.injEq] at H
                    obtain ⟨rfl, rfl⟩ := H
                    go_wp2_with (first | ((with_reducible refine gate_callee (f := 18) rfl ?_); refine goesL_ (some 16) rfl rfl Tryz.func18 (by kernel_rfl) rfl #[.string a0, .int .i64 x5_1] rfl (by (try simp only [List.map_toArray, List.map_cons, List.map_nil]); first | done | rfl | (simp only [List.length_drop, List.length_take]; rfl)) ?_; (with_reducible refine (spec_Character.calls k1 a0 x5_1 t109 t110 true _ A3.out).mono ?_); rintro e w' ⟨rfl, ⟨nd, rfl⟩⟩; refine ⟨_, rfl, ?_⟩) | ((with_reducible refine gate_callee (f := 18) rfl ?_); refine goesL_ (some 52) rfl rfl Tryz.func18 (by kernel_rfl) rfl #[.string a0, .int .i64 (wrap64 (x5_1 + t110))] rfl (by (try simp only [List.map_toArray, List.map_cons, List.map_nil]); first | done | rfl | (simp only [List.length_drop, List.length_take]; rfl)) ?_; (with_reducible refine (spec_Character.calls k1 a0 (wrap64 (x5_1 + t110)) t118 t119 false _ A13.out).mono ?_); rintro e w' ⟨rfl, ⟨nd, rfl⟩⟩; refine ⟨_, rfl, ?_⟩))
                    go_ret2
                    exact ⟨_, by first | rfl | (simp [errW_none, errW_some] <;> rfl) | (simp [*, errW_none, errW_some] <;> rfl), by first | exact Kd.R_nil _ _ _ _ _ | exact Kd.N_nil _ _ _ _ _ | exact Kd.V_nil _ _ _ _ _ | exact Kd.Q_nil _ _ _ _ _ | exact Kd.S_nil _ _ _ _ _, by repeat (first | (with_reducible first | exact HB.out | apply below_alloc | apply pw_below_drewN | apply below_drew1) | exact HB.out)⟩
              · rw [if_neg c11] at H
                have c11b0 : (t109 == 92) = false := beq_eq_false_iff_ne.mpr c11
                have c11b1 : (t109 != 92) = true := bne_iff_ne.mpr c11
                by_cases c17 : x4_1.length < 8796093022208
                · rw [if_pos c17] at H
                  have LMc17 := Aside0.mk c17
                  clear c17
                  obtain ⟨y124, hy124⟩ : ∃ y_ : List (S56), y_ = (x4_1 ++ [(⟨false, false, t109⟩ : S56)]) := ⟨_, rfl⟩
                  replace H : (spec_Globs.l0 k1 a0 y124 (wrap64 (x5_1 + t110))) = some (r1, r2) := by first | (rw [hy124]; with_reducible exact H) | (have H2_ := (Option.bind_some _ _).symm.trans H; rw [hy124]; with_reducible exact H2_) | (have H2_ := (Option.bind_some _ _).symm.trans H; with_reducible exact H2_) | with_reducible exact H | (rw [hy124]; exact H) | exact H
                  have Ny124 := Aside0.mk hy124
                  clear hy124
                  have H' := Aside0.mk H
                  clear H
                  go_wp2_with (first | ((with_reducible refine gate_callee (f := 18) rfl ?_); refine goesL_ (some 16) rfl rfl Tryz.func18 (by kernel_rfl) rfl #[.string a0, .int .i64 x5_1] rfl (by (try simp only [List.map_toArray, List.map_cons, List.map_nil]); first | done | rfl | (simp only [List.length_drop, List.length_take]; rfl)) ?_; (with_reducible refine (spec_Character.calls k1 a0 x5_1 t109 t110 true _ A3.out).mono ?_); rintro e w' ⟨rfl, ⟨nd, rfl⟩⟩; refine ⟨_, rfl, ?_⟩) | ((with_reducible refine gate_builtin (b := .append) (xs := #[.tmp 26, .tmp 29]) rfl ?_); at_builtin; refine Kd.R_append k56 (w0 := w) w.heap.size rfl (.tmp 26) (.tmp 29) 40 56 (.agg #[(.bool false), (.bool false), (.int .i64 0)]) 16 rfl Tryz.underlying40 info56 rfl (by decide) (by omega) u4 x4_1 (⟨false, false, t109⟩ : S56) [.bool false, .bool false, .int .i64 t109] (fun _ => True) (fun _ => False) rfl rfl ?aP (fun _ hk => hk.elim) ?aF ?aO ?aB ?aS ?aL ?_; (case aP => exact k56_mkM _ _ _ (⟨false, false, t109⟩ : S56)); (case aB => exact (by repeat (first | (with_reducible first | exact HB.out | apply below_alloc | apply pw_below_drewN | apply below_drew1) | exact HB.out))); (case aF => exact (fun _ _ => trivial)); (case aO => exact (by (with_reducible repeat (first | apply Kd.R_alloc | apply Kd.R_drewN | apply Kd.R_drew)); exact HO_4.out)); (case aS => exact (below_size (by repeat (first | (with_reducible first | exact HB.out | apply below_alloc | apply pw_below_drewN | apply below_drew1) | exact HB.out)))); (case aL => have := LMc17.out; omega); intro v125 w18 ho hb hg hat; rw [← Ny124.out] at ho; have n0_ := Aside0.mk (hb); have n1_ := Aside0.mk (ho); clear HB; clear HO_4; have HB := n0_; have HO126 := n1_; clear n0_ n1_; clear ho hb hg hat))
                  go_roundg k1
                  case measure => have := HK1.out; omega
                  case rel => exact ⟨(y124), (wrap64 (x5_1 + t110)), (by first | rfl | (simp; done) | (simp [*]; done)), H', ⟨by have := HK1.out; omega⟩, ⟨by (with_reducible repeat (first | apply Kd.R_alloc | apply Kd.R_drewN | apply Kd.R_drew)); exact HO126.out⟩, ⟨by repeat (first | (with_reducible first | exact HB.out | apply below_alloc | apply pw_below_drewN | apply below_drew1) | exact HB.out)⟩⟩
                · rw [if_neg c17] at H
                  exact absurd H (by simp)
        · replace c4 := Bool.eq_false_iff.mpr c4
          subst c4
          have H1 : (some (([] : List (S56)), false)) = some (r1, r2) := by rw [if_neg (show ¬ (false = true) by decide)] at H; exact H
          clear H
          have H := H1
          clear H1
          simp only [Option.some.injEq, Prod.mk.injEq] at H
          obtain ⟨rfl, rfl⟩ := H
          go_wp2_with (first | ((with_reducible refine gate_callee (f := 18) rfl ?_); refine goesL_ (some 16) rfl rfl Tryz.func18 (by kernel_rfl) rfl #[.string a0, .int .i64 x5_1] rfl (by (try simp only [List.map_toArray, List.map_cons, List.map_nil]); first | done | rfl | (simp only [List.length_drop, List.length_take]; rfl)) ?_; (with_reducible refine (spec_Character.calls k1 a0 x5_1 t109 t110 false _ A3.out).mono ?_); rintro e w' ⟨rfl, ⟨nd, rfl⟩⟩; refine ⟨_, rfl, ?_⟩))
          go_ret2
          exact ⟨_, by first | rfl | (simp [errW_none, errW_some] <;> rfl) | (simp [*, errW_none, errW_some] <;> rfl), by first | exact Kd.R_nil _ _ _ _ _ | exact Kd.N_nil _ _ _ _ _ | exact Kd.V_nil _ _ _ _ _ | exact Kd.Q_nil _ _ _ _ _ | exact Kd.S_nil _ _ _ _ _, by repeat (first | (with_reducible first | exact HB.out | apply below_alloc | apply pw_below_drewN | apply below_drew1) | exact HB.out)⟩
      · rw [if_neg c2] at H
        have c2b0 : decide (x5_1 < (a0.size : Int)) = false := decide_eq_false c2
        clear c2
        simp only [Option.some.injEq, Prod.mk.injEq] at H
        obtain ⟨rfl, rfl⟩ := H
        go_wp2
        go_ret2
        exact ⟨_, by first | rfl | (simp [errW_none, errW_some] <;> rfl) | (simp [*, errW_none, errW_some] <;> rfl), by (with_reducible repeat (first | apply Kd.R_alloc | apply Kd.R_drewN | apply Kd.R_drew)); exact HO_4.out, by repeat (first | (with_reducible first | exact HB.out | apply below_alloc | apply pw_below_drewN | apply below_drew1) | exact HB.out)⟩


/-! ### spec_Fits: function 14 -/
mutual
def spec_Fits.l0 : Nat → List Int → List Bool → List (S56) → Int → Int → Option (Bool)
  | 0, _, _, _, _, _ => none
  | k + 1, x0, x5, x16, x17, x18 => if x18 < x17 then (if 0 ≤ x18 then (if x18 < (x16.length : Int) then (if 0 ≤ (wrap64 ((x0.length : Int) + 1)) then (if (wrap64 ((x0.length : Int) + 1) : Int).toNat ≤ 281474976710656 then (spec_Fits.l1 k x0 x5 (List.replicate (wrap64 ((x0.length : Int) + 1) : Int).toNat false) 0 x16 x17 x18 ((rd_T56 x16 x18).f0) ((rd_T56 x16 x18).f1) ((rd_T56 x16 x18).f2)) else (none)) else (none)) else (none)) else (none)) else (if 0 ≤ (x0.length : Int) then (if (x0.length : Int) < (x5.length : Int) then (some (rdOf false x5 (x0.length : Int))) else (none)) else (none))
def spec_Fits.l1 : Nat → List Int → List Bool → List Bool → Int → List (S56) → Int → Int → Bool → Bool → Int → Option (Bool)
  | 0, _, _, _, _, _, _, _, _, _, _ => none
  | k + 1, x0, x5, x8, x9, x16, x17, x18, x134000, x134001, x134002 => if x9 ≤ (x0.length : Int) then (if x134000 = true then (if 0 ≤ x9 then (if x9 < (x5.length : Int) then (if rdOf false x5 x9 = true then (if x9 < (x8.length : Int) then (spec_Fits.l1 k x0 x5 (x8.set (x9 : Int).toNat true) (wrap64 (x9 + 1)) x16 x17 x18 x134000 x134001 x134002) else (none)) else (if x9 > 0 then (if 0 ≤ (wrap64 (x9 - 1)) then (if (wrap64 (x9 - 1)) < (x8.length : Int) then (if x9 < (x8.length : Int) then (spec_Fits.l1 k x0 x5 (x8.set (x9 : Int).toNat (rdOf false x8 (wrap64 (x9 - 1)))) (wrap64 (x9 + 1)) x16 x17 x18 x134000 x134001 x134002) else (none)) else (none)) else (none)) else (if x9 < (x8.length : Int) then (spec_Fits.l1 k x0 x5 (x8.set (x9 : Int).toNat false) (wrap64 (x9 + 1)) x16 x17 x18 x134000 x134001 x134002) else (none)))) else (none)) else (none)) else (if x9 > 0 then (if 0 ≤ (wrap64 (x9 - 1)) then (if (wrap64 (x9 - 1)) < (x5.length : Int) then (if rdOf false x5 (wrap64 (x9 - 1)) = true then (if x134001 = true then (if 0 ≤ x9 then (if x9 < (x8.length : Int) then (spec_Fits.l1 k x0 x5 (x8.set (x9 : Int).toNat true) (wrap64 (x9 + 1)) x16 x17 x18 x134000 x134001 x134002) else (none)) else (none)) else (if (wrap64 (x9 - 1)) < (x0.length : Int) then (if 0 ≤ x9 then (if x9 < (x8.length : Int) then (spec_Fits.l1 k x0 x5 (x8.set (x9 : Int).toNat (x134002 == (rd x0 (wrap64 (x9 - 1))))) (wrap64 (x9 + 1)) x16 x17 x18 x134000 x134001 x134002) else (none)) else (none)) else (none))) else (spec_Fits.l1 k x0 x5 x8 (wrap64 (x9 + 1)) x16 x17 x18 x134000 x134001 x134002)) else (none)) else (none)) else (spec_Fits.l1 k x0 x5 x8 (wrap64 (x9 + 1)) x16 x17 x18 x134000 x134001 x134002))) else (spec_Fits.l0 k x0 x8 x16 x17 (wrap64 (x18 + 1)))
end
def spec_Fits.f (k : Nat) (l0 : List Int) (l1 : List (S56)) : Option (Bool) := if 0 ≤ (wrap64 ((l0.length : Int) + 1)) then (if (wrap64 ((l0.length : Int) + 1) : Int).toNat ≤ 281474976710656 then ((some (List.replicate (wrap64 ((l0.length : Int) + 1) : Int).toNat false : List Bool)).bind fun y127 => (if 0 < (y127.length : Int) then (spec_Fits.l0 k l0 (y127.set (0 : Int).toNat true) l1 (l1.length : Int) 0) else (none))) else (none)) else (none)
theorem spec_Fits.mono_l : ∀ k, (∀ y0 y1 y2 y3 y4, LeO (spec_Fits.l0 k y0 y1 y2 y3 y4) (spec_Fits.l0 (k + 1) y0 y1 y2 y3 y4)) ∧ (∀ y0 y1 y2 y3 y4 y5 y6 y7 y8 y9, LeO (spec_Fits.l1 k y0 y1 y2 y3 y4 y5 y6 y7 y8 y9) (spec_Fits.l1 (k + 1) y0 y1 y2 y3 y4 y5 y6 y7 y8 y9))
  | 0 => ⟨fun _ _ _ _ _ r h => by simp [spec_Fits.l0] at h, fun _ _ _ _ _ _ _ _ _ _ r h => by simp [spec_Fits.l1] at h⟩
  | k + 1 => by
    obtain ⟨ih0, ih1⟩ := spec_Fits.mono_l k
    refine ⟨?_, ?_⟩
    · intro y0 y1 y2 y3 y4
      unfold spec_Fits.l0
      repeat' first
      | (with_reducible exact ih0 _ _ _ _ _)
      | (with_reducible exact ih1 _ _ _ _ _ _ _ _ _ _)
      | (with_reducible exact LeO.refl _)
      | (with_reducible exact LeO.none _)
      | (with_reducible refine LeO.ite ?_ ?_)
      | (with_reducible refine LeO.bind ?_ (fun _ => ?_))
      | exact ih0 _ _ _ _ _
      | exact ih1 _ _ _ _ _ _ _ _ _ _
      | exact LeO.none _
      | refine LeO.ite ?_ ?_
      | refine LeO.bind ?_ (fun _ => ?_)
    · intro y0 y1 y2 y3 y4 y5 y6 y7 y8 y9
      unfold spec_Fits.l1
      repeat' first
      | (with_reducible exact ih0 _ _ _ _ _)
      | (with_reducible exact ih1 _ _ _ _ _ _ _ _ _ _)
      | (with_reducible exact LeO.refl _)
      | (with_reducible exact LeO.none _)
      | (with_reducible refine LeO.ite ?_ ?_)
      | (with_reducible refine LeO.bind ?_ (fun _ => ?_))
      | exact ih0 _ _ _ _ _
      | exact ih1 _ _ _ _ _ _ _ _ _ _
      | exact LeO.none _
      | refine LeO.ite ?_ ?_
      | refine LeO.bind ?_ (fun _ => ?_)
theorem spec_Fits.mono : ∀ a0 a1 k, LeO (spec_Fits.f k a0 a1) (spec_Fits.f (k + 1) a0 a1) := by
  intro a0 a1 k
  obtain ⟨ih0, ih1⟩ := spec_Fits.mono_l k
  unfold spec_Fits.f
  repeat' first
      | (with_reducible exact ih0 _ _ _ _ _)
      | (with_reducible exact ih1 _ _ _ _ _ _ _ _ _ _)
      | (with_reducible exact LeO.refl _)
      | (with_reducible exact LeO.none _)
      | (with_reducible refine LeO.ite ?_ ?_)
      | (with_reducible refine LeO.bind ?_ (fun _ => ?_))
      | exact ih0 _ _ _ _ _
      | exact ih1 _ _ _ _ _ _ _ _ _ _
      | exact LeO.none _
      | refine LeO.ite ?_ ?_
      | refine LeO.bind ?_ (fun _ => ?_)
def spec_Fits.T13 : Bool × List (List Nat × List Nat) := (true, [([], []), ([], []), ([], []), ([2], [2]), ([3], [3]), ([4], [4]), ([5, 4], [4, 5]), ([4], [4]), ([4], [4]), ([8, 4], [4, 8]), ([7, 9, 4], [4, 7, 9]), ([10, 4], [4, 10]), ([6, 11, 4], [4, 6, 11]), ([4, 12], [4, 12]), ([0, 1, 0, 1, 2, 3, 4, 5, 6, 7, 8, 9, 10, 11, 12, 13], [0, 1]), ([14, 13, 4, 0, 1, 2, 3, 4, 5, 6, 7, 8, 9, 10, 11, 12, 13], [13, 14])])
def spec_Fits.B13 : List Nat := [0, 0, 0, 4, 12, 28, 60, 28, 28, 284, 924, 1948, 4092, 8188, 16383, 32767]
theorem spec_Fits.tab13 : rtab .any (opsOf Tryz.f14 13) = spec_Fits.T13 := by kernel_rfl
theorem spec_Fits.bits13 : waitsOk spec_Fits.T13.2 spec_Fits.B13 = true := by kernel_rfl
set_option maxHeartbeats 8000000 in
set_option maxRecDepth 100000 in
theorem spec_Fits.calls (k : Nat) (A0 : Option Addr) (c0 : Nat) (l0 : List Int) (A1 : Option Addr) (c1 : Nat) (l1 : List (S56)) (r : Bool) (w : World) (hr0 : Kd.C (Kd.int .i64) w A0 l0.length l0) (hc0 : l0.length ≤ c0) (hr1 : Kd.C k56 w A1 l1.length l1) (hc1 : l1.length ≤ c1) (h : spec_Fits.f k l0 l1 = some r) :
    Calls Tryz.prog 14 #[.slice A0 l0.length c0, .slice A1 l1.length c1] w fun e w' => e = .returned (.bool r) ∧ Below w.heap.size w w' := by
  have hu56 := Tryz.underlying56
  have HR0 := Aside0.mk hr0
  have HC0 := Aside0.mk hc0
  clear hr0 hc0
  have HR1 := Aside0.mk hr1
  have HC1 := Aside0.mk hc1
  clear hr1 hc1
  have HB := Aside0.mk (Below.refl w.heap.size w)
  have H : (if 0 ≤ (wrap64 ((l0.length : Int) + 1)) then (if (wrap64 ((l0.length : Int) + 1) : Int).toNat ≤ 281474976710656 then ((some (List.replicate (wrap64 ((l0.length : Int) + 1) : Int).toNat false : List Bool)).bind fun y127 => (if 0 < (y127.length : Int) then (spec_Fits.l0 k l0 (y127.set (0 : Int).toNat true) l1 (l1.length : Int) 0) else (none))) else (none)) else (none)) = some r := h
  clear h
  obtain ⟨ji3, hji3⟩ : ∃ j_ : Int, (wrap64 ((l0.length : Int) + 1)) = j_ := ⟨_, rfl⟩
  replace H : (if 0 ≤ (ji3) then (if (ji3 : Int).toNat ≤ 281474976710656 then ((some (List.replicate (ji3 : Int).toNat false : List Bool)).bind fun y127 => (if 0 < (y127.length : Int) then (spec_Fits.l0 k l0 (y127.set (0 : Int).toNat true) l1 (l1.length : Int) 0) else (none))) else (none)) else (none)) = some r := by first | (rw [hji3] at H; exact H) | (simp only [hji3] at H ⊢; exact H)
  have hji3w : (IntKind.i64.wrap ((l0.length : Int) + 1)) = ji3 := (i64_w _).trans hji3
  by_cases c4 : 0 ≤ (ji3)
  · rw [if_pos c4] at H
    have c4b0 := eq_true c4
    have c4b1 : decide (0 ≤ (ji3)) = true := decide_eq_true c4
    clear c4
    by_cases c5 : (ji3 : Int).toNat ≤ 281474976710656
    · rw [if_pos c5] at H
      have c5b0 := eq_true c5
      have c5b1 : decide ((ji3 : Int).toNat ≤ 281474976710656) = true := decide_eq_true c5
      clear c5
      obtain ⟨y127, hy127⟩ : ∃ y_ : List Bool, y_ = (List.replicate (ji3 : Int).toNat false) := ⟨_, rfl⟩
      replace H : (if 0 < (y127.length : Int) then (spec_Fits.l0 k l0 (y127.set (0 : Int).toNat true) l1 (l1.length : Int) 0) else (none)) = some r := by first | (rw [hy127]; with_reducible exact H) | (have H2_ := (Option.bind_some _ _).symm.trans H; rw [hy127]; with_reducible exact H2_) | (have H2_ := (Option.bind_some _ _).symm.trans H; with_reducible exact H2_) | with_reducible exact H | (rw [hy127]; exact H) | exact H
      have Ny127 := Aside0.mk hy127
      clear hy127
      by_cases c6 : 0 < (y127.length : Int)
      · rw [if_pos c6] at H
        have c6b0 : decide (0 < (y127.length : Int)) = true := decide_eq_true c6
        have c6b1 : decide (0 < y127.length) = true := decide_eq_true (by omega)
        clear c6
        obtain ⟨y130, hy130⟩ : ∃ y_ : List Bool, y_ = (y127.set (0 : Int).toNat true) := ⟨_, rfl⟩
        replace H : (spec_Fits.l0 k l0 y130 l1 (l1.length : Int) 0) = some r := by first | (rw [hy130]; with_reducible exact H) | (have H2_ := (Option.bind_some _ _).symm.trans H; rw [hy130]; with_reducible exact H2_) | (have H2_ := (Option.bind_some _ _).symm.trans H; with_reducible exact H2_) | with_reducible exact H | (rw [hy130]; exact H) | exact H
        have Ny130 := Aside0.mk hy130
        clear hy130
        have H' := Aside0.mk H
        clear H
        go_enter Tryz.func14, Tryz.ntmps14
        go_wp2_with (first | ((with_reducible refine gate_dst (N := 13) rfl ?_); refine Kd.R_make Kd.bool _ 4 rfl (N := 13) rfl 57 _ _ rfl ji3 rfl rfl Tryz.underlying57 (.bool false) 1 info4 rfl (by decide) (by omega) false (ok := fun _ => True) (okp := fun _ => True) rfl (fun _ hk => hk) trivial (of_decide_eq_true (by first | (with_reducible assumption) | assumption)) (Nat.le_trans (Nat.mul_le_mul_right _ (of_decide_eq_true (by first | (with_reducible assumption) | assumption) : ji3.toNat ≤ 281474976710656)) (by omega)) (Below.refl _ _) (Nat.le_refl _) ?_; intro v128 w8 ho9 hb hg_ hnew_; clear hg_ hnew_; (first | rw [← Ny127.out] at ho9 | (simp only [Int.reduceToNat] at ho9; rw [← Ny127.out] at ho9)); have n0_ := Aside0.mk (Kd.R_lower ho9 (below_size (by repeat (first | (with_reducible first | exact HB.out | apply below_alloc | apply pw_below_drewN | apply below_drew1) | exact HB.out)))); have n1_ := Aside0.mk (below_step (by repeat (first | (with_reducible first | exact HB.out | apply below_alloc | apply pw_below_drewN | apply below_drew1) | exact HB.out)) hb); clear HB; have HO129 := n0_; have HB := n1_; clear n0_ n1_; clear hb ho9; have p7 : 0 ≤ (0 : Int) := (by omega); have q7 : (0 : Int) < ((y127.length : Int) : Int) := of_decide_eq_true (by first | (with_reducible assumption) | assumption); have qi7 : (0 < y127.length) = True := eq_true (by omega); obtain ⟨go7, co7, eo7, gb7, gl7, cl7, HG7⟩ := Kd.R_form HO129.out (by omega); (first | cases eo7 | (injection eo7 with ea_ en_ ec_; (first | subst ea_ | (injection ea_ with ea_; subst ea_)); subst ec_; clear en_)); have GB7 := Aside0.mk gb7; have GG7 := Aside0.mk HG7; clear gb7 gl7 HG7; obtain ⟨hx7_0, hf7_0⟩ := Kd.R_celln false HO129.out (0 : Int) p7 q7; (try rw [show ((0 : Int)).toNat = 0 from rfl] at hx7_0); (try simp only [Nat.reduceMul, Nat.zero_mul, Nat.zero_add, Nat.reduceAdd] at hx7_0); (try rw [show ((0 : Int)).toNat = 0 from rfl] at hf7_0); (try simp only [Nat.reduceMul, Nat.zero_mul, Nat.zero_add, Nat.reduceAdd] at hf7_0); replace p7 := eq_true p7; replace q7 := eq_true q7; obtain ⟨hy10_, hz10_⟩ := Kd.R_celln false HO129.out (0 : Int) (by omega) (of_decide_eq_true (by first | (with_reducible assumption) | assumption)); (try simp only [Int.reduceToNat, Int.toNat_zero, Int.toNat_ofNat, Nat.reduceMul, Nat.zero_mul, Nat.zero_add] at hy10_ hz10_); (try rw [show ((0 : Int)).toNat = 0 from rfl] at hy10_); (try rw [show ((0 : Int)).toNat = 0 from rfl] at hz10_); have HP10 := Kd.R_putg HO129.out (0 : Int) true) | ((with_reducible refine gate_store (t := 4) (p := 15) rfl ?_); refine store_event (t := 4) (p := 15) (v := ?vo_w11) (w1 := (w8.setCell ⟨go7, (0 : Int).toNat, none⟩ (.bool true))) ?hg ?ho ?hn ?hr ?_; (case ho => rfl); (case hg => rfl); (case hn => rfl); (case hr => first | (go_simp; done) | (go_simp; rfl)); intro w11 hw; have hg : w8.grownBy w11 (some go7) := (by rw [hw]; exact HP10.2); have hp_ : Kd.R Kd.bool 4 w11 w.heap.size (fun _ => True) (.slice (some ⟨go7, 0, none⟩) y127.length co7) y130 := (by rw [hw, Ny130.out]; exact HP10.1); clear HP10; have n0_ := Aside0.mk (hp_); have n1_ := Aside0.mk ((by rw [hw]; exact below_set (HB.out) GB7.out : Below w.heap.size w w11)); clear HO129; clear HB; have HO129 := n0_; have HB := n1_; clear n0_ n1_; clear hg hw hp_))
        (try simp only [Act.put, List.setIfInBounds_toArray, List.set_cons_zero, List.set_cons_succ])
        go_loopg [5, 18] k (fun kq v5 v18 w' => ∃ (x5_1 : List Bool) (x18_1 : Int), v18 = .int .i64 x18_1 ∧ Aside0 (spec_Fits.l0 kq l0 x5_1 l1 (l1.length : Int) x18_1 = some r) ∧ Aside0 (kq ≤ k) ∧ Aside0 (Kd.R Kd.bool 4 w' w.heap.size (fun _ => True) v5 x5_1) ∧ Aside0 (Below w.heap.size w w'))
        case atStart => exact ⟨(y130), (0), (by first | rfl | (simp; done) | (simp [*]; done)), H', ⟨Nat.le_refl _⟩, ⟨by (with_reducible repeat (first | apply Kd.R_alloc | apply Kd.R_drewN | apply Kd.R_drew)); exact HO129.out⟩, ⟨by repeat (first | (with_reducible first | exact HB.out | apply below_alloc | apply pw_below_drewN | apply below_drew1) | exact HB.out)⟩⟩
        case round =>
          clear H'
          try clear c1
          try clear p2
          try clear c4
          try clear c4b0
          try clear c4b1
          try clear c5
          try clear c5b0
          try clear c5b1
          try clear c6
          try clear c6b0
          try clear c6b1
          try clear p6
          try clear p7
          try clear q7
          try clear hx7
          try clear qi7
          try clear hf7
          try clear hx7_0
          try clear p7
          try clear q7
          obtain ⟨x5_1, x18_1, rfl, HA, HK1, HO_5, HB⟩ := hrel
          cases gk with
          | zero => exact absurd HA.out (by simp [spec_Fits.l0])
          | succ k1 =>
            have H := HA.out
            clear HA
            simp only [spec_Fits.l0] at H
            by_cases c12 : x18_1 < (l1.length : Int)
            · rw [if_pos c12] at H
              have c12b0 : decide (x18_1 < (l1.length : Int)) = true := decide_eq_true c12
              clear c12
              by_cases c13 : 0 ≤ x18_1
              · rw [if_pos c13] at H
                have c13b0 : decide (0 ≤ x18_1) = true := decide_eq_true c13
                clear c13
                by_cases c14 : x18_1 < (l1.length : Int)
                · rw [if_pos c14] at H
                  have c14b0 : decide (x18_1 < (l1.length : Int)) = true := decide_eq_true c14
                  clear c14
                  replace H : (if 0 ≤ (ji3) then (if (ji3 : Int).toNat ≤ 281474976710656 then (spec_Fits.l1 k1 l0 x5_1 (List.replicate (ji3 : Int).toNat false) 0 l1 (l1.length : Int) x18_1 ((rd_T56 l1 x18_1).f0) ((rd_T56 l1 x18_1).f1) ((rd_T56 l1 x18_1).f2)) else (none)) else (none)) = some r := by first | (rw [hji3] at H; exact H) | (simp only [hji3] at H ⊢; exact H)
                  have hji3w : (IntKind.i64.wrap ((l0.length : Int) + 1)) = ji3 := (i64_w _).trans hji3
                  by_cases c15 : 0 ≤ (ji3)
                  · rw [if_pos c15] at H
                    have c15b0 := eq_true c15
                    have c15b1 : decide (0 ≤ (ji3)) = true := decide_eq_true c15
                    clear c15
                    by_cases c16 : (ji3 : Int).toNat ≤ 281474976710656
                    · rw [if_pos c16] at H
                      have c16b0 := eq_true c16
                      have c16b1 : decide ((ji3 : Int).toNat ≤ 281474976710656) = true := decide_eq_true c16
                      clear c16
                      obtain ⟨y134, hy134⟩ : ∃ y_ : List Bool, y_ = (List.replicate (ji3 : Int).toNat false) := ⟨_, rfl⟩
                      replace H : (spec_Fits.l1 k1 l0 x5_1 y134 0 l1 (l1.length : Int) x18_1 ((rd_T56 l1 x18_1).f0) ((rd_T56 l1 x18_1).f1) ((rd_T56 l1 x18_1).f2)) = some r := by first | (rw [hy134]; with_reducible exact H) | (have H2_ := (Option.bind_some _ _).symm.trans H; rw [hy134]; with_reducible exact H2_) | (have H2_ := (Option.bind_some _ _).symm.trans H; with_reducible exact H2_) | with_reducible exact H | (rw [hy134]; exact H) | exact H
                      have Ny134 := Aside0.mk hy134
                      clear hy134
                      have H' := Aside0.mk H
                      clear H
                      have p132 : 0 ≤ (x18_1 : Int) := of_decide_eq_true (by first | (with_reducible assumption) | assumption)
                      have q132 : x18_1 < (l1.length : Int) := of_decide_eq_true (by first | (with_reducible assumption) | assumption)
                      obtain ⟨ad132, e132, hx132_0, hx132_1, hx132_2⟩ := at_T56 HR1.out x18_1 p132 q132
                      cases e132
                      replace hx132_0 := (HB.out.cell (World.block_lt_of_cell? w _ hx132_0)).trans hx132_0
                      replace hx132_1 := (HB.out.cell (World.block_lt_of_cell? w _ hx132_1)).trans hx132_1
                      replace hx132_2 := (HB.out.cell (World.block_lt_of_cell? w _ hx132_2)).trans hx132_2
                      replace p132 := eq_true p132
                      replace q132 := eq_true q132
                      go_wp2_with (first | ((with_reducible refine gate_dst (N := 7) rfl ?_); refine box_event ?hg (N := 7) ?hd (cs := #[.bool false, .bool false, .int .i64 0]) (t := 56) ?hr ?_; (case hd => rfl); (case hg => rfl); (case hr => first | (go_simp; done) | (go_simp; rfl)); intro gb133 hg w17 hbox hb; have n0_ := Aside0.mk (Kd.R_below (by (with_reducible repeat (first | apply Kd.R_alloc | apply Kd.R_drewN | apply Kd.R_drew)); exact HO_5.out) hb); have n1_ := Aside0.mk (below_step (by repeat (first | (with_reducible first | exact HB.out | apply below_alloc | apply pw_below_drewN | apply below_drew1) | exact HB.out)) hb); have n2_ := Aside0.mk (hbox); have n3_ := Aside0.mk ((by rw [hg]; exact (below_size (by repeat (first | (with_reducible first | exact HB.out | apply below_alloc | apply pw_below_drewN | apply below_drew1) | exact HB.out))) : w.heap.size ≤ gb133)); have n4_ := Aside0.mk ((by rw [hg]; exact (below_size (by repeat (first | (with_reducible first | exact HB.out | apply below_alloc | apply pw_below_drewN | apply below_drew1) | exact HB.out))) : w.heap.size ≤ gb133)); clear HO_5; clear HB; have HO_5 := n0_; have HB := n1_; have BK133 := n2_; have GW133 := n3_; have GE133 := n4_; clear n0_ n1_ n2_ n3_ n4_; clear hb hbox hg; have hcz18_0 : w17.cell? ⟨gb133, 0, none⟩ = some (.bool false) := (blk_cell BK133.out 0).trans rfl; have hcz18_1 : w17.cell? ⟨gb133, 1, none⟩ = some (.bool false) := (blk_cell BK133.out 1).trans rfl; have hcz18_2 : w17.cell? ⟨gb133, 2, none⟩ = some (.int .i64 0) := (blk_cell BK133.out 2).trans rfl; have hfz18_0 := blk_frozen BK133.out 0; have hfz18_1 := blk_frozen BK133.out 1; have hfz18_2 := blk_frozen BK133.out 2) | ((with_reducible refine gate_dst (N := 25) rfl ?_); refine Kd.R_make Kd.bool _ 4 rfl (N := 25) rfl 57 _ _ rfl ji3 rfl rfl Tryz.underlying57 (.bool false) 1 info4 rfl (by decide) (by omega) false (ok := fun _ => True) (okp := fun _ => True) rfl (fun _ hk => hk) trivial (of_decide_eq_true (by first | (with_reducible assumption) | assumption)) (Nat.le_trans (Nat.mul_le_mul_right _ (of_decide_eq_true (by first | (with_reducible assumption) | assumption) : ji3.toNat ≤ 281474976710656)) (by omega)) (Below.refl _ _) (Nat.le_refl _) ?_; intro v135 w19 ho20 hb hg_ hnew_; clear hg_ hnew_; (first | rw [← Ny134.out] at ho20 | (simp only [Int.reduceToNat] at ho20; rw [← Ny134.out] at ho20)); have n0_ := Aside0.mk (Kd.R_elder' (by (with_reducible repeat (first | apply Kd.R_alloc | apply Kd.R_drewN | apply Kd.R_drew)); exact (Kd.R_mono (Kd.R_far (p := ⟨gb133, 2, none⟩) (Kd.R_far (p := ⟨gb133, 1, none⟩) (Kd.R_far (p := ⟨gb133, 0, none⟩) (Kd.R_types HO_5.out BK133.out (by decide)) (fun _ hk => hk.2) (.bool ((rd_T56 l1 x18_1).f0))) (fun _ hk => hk.2) (.bool ((rd_T56 l1 x18_1).f1))) (fun _ hk => hk.2) (.int .i64 ((rd_T56 l1 x18_1).f2))) (fun _ h_ => h_.1))) (Kd.R_base ho20) hb); have n1_ := Aside0.mk (Kd.R_lower (Kd.R_new' ho20 (Kd.R_lt (by (with_reducible repeat (first | apply Kd.R_alloc | apply Kd.R_drewN | apply Kd.R_drew)); exact (Kd.R_mono (Kd.R_far (p := ⟨gb133, 2, none⟩) (Kd.R_far (p := ⟨gb133, 1, none⟩) (Kd.R_far (p := ⟨gb133, 0, none⟩) (Kd.R_types HO_5.out BK133.out (by decide)) (fun _ hk => hk.2) (.bool ((rd_T56 l1 x18_1).f0))) (fun _ hk => hk.2) (.bool ((rd_T56 l1 x18_1).f1))) (fun _ hk => hk.2) (.int .i64 ((rd_T56 l1 x18_1).f2))) (fun _ h_ => h_.1))))) (below_size (by repeat (first | (with_reducible first | exact HB.out | apply below_alloc | apply pw_below_drewN | apply below_drew1 | refine below_set ?_ GE133.out) | exact HB.out)))); have n2_ := Aside0.mk (blk_below (g := gb133) (o := .cells #[.bool ((rd_T56 l1 x18_1).f0), .bool ((rd_T56 l1 x18_1).f1), .int .i64 ((rd_T56 l1 x18_1).f2)] 56 (0, 0)) (by (with_reducible repeat (first | refine blk_drewN ?_ _ | refine blk_drew ?_ | refine blk_alloc ?_ _)); refine blk_put (cs := #[.bool ((rd_T56 l1 x18_1).f0), .bool ((rd_T56 l1 x18_1).f1), .int .i64 0]) ?_ 2 _ rfl; (with_reducible repeat (first | refine blk_drewN ?_ _ | refine blk_drew ?_ | refine blk_alloc ?_ _)); refine blk_put (cs := #[.bool ((rd_T56 l1 x18_1).f0), .bool false, .int .i64 0]) ?_ 1 _ rfl; (with_reducible repeat (first | refine blk_drewN ?_ _ | refine blk_drew ?_ | refine blk_alloc ?_ _)); refine blk_put (cs := #[.bool false, .bool false, .int .i64 0]) ?_ 0 _ rfl; (with_reducible repeat (first | refine blk_drewN ?_ _ | refine blk_drew ?_ | refine blk_alloc ?_ _)); exact BK133.out) hb); have n3_ := Aside0.mk (below_step (by repeat (first | (with_reducible first | exact HB.out | apply below_alloc | apply pw_below_drewN | apply below_drew1 | refine below_set ?_ GE133.out) | exact HB.out)) hb); clear HO_5; clear BK133; clear HB; have HO_5 := n0_; have HO136 := n1_; have BK133 := n2_; have HB := n3_; clear n0_ n1_ n2_ n3_; clear hb ho20))
                      (try simp only [Act.put, List.setIfInBounds_toArray, List.set_cons_zero, List.set_cons_succ])
                      go_loopg [9] k1 (fun kq v9 w' => ∃ (x8_2 : List Bool) (x9_2 : Int), v9 = .int .i64 x9_2 ∧ Aside0 (spec_Fits.l1 kq l0 x5_1 x8_2 x9_2 l1 (l1.length : Int) x18_1 ((rd_T56 l1 x18_1).f0) ((rd_T56 l1 x18_1).f1) ((rd_T56 l1 x18_1).f2) = some r) ∧ Aside0 (kq ≤ k1) ∧ Aside0 (Kd.R Kd.bool 4 w' w.heap.size (fun k_ => some k_ ≠ (v135 : Value).ownBlock) u5 x5_1) ∧ Aside0 (Kd.R Kd.bool 4 w' w.heap.size (fun k_ => some k_ ≠ (u5 : Value).ownBlock) v135 x8_2) ∧ Aside0 (w'.heap[gb133]? = some (.cells #[.bool ((rd_T56 l1 x18_1).f0), .bool ((rd_T56 l1 x18_1).f1), .int .i64 ((rd_T56 l1 x18_1).f2)] 56 (0, 0))) ∧ Aside0 (Below w.heap.size w w'))
                      case atStart => exact ⟨(y134), (0), (by first | rfl | (simp; done) | (simp [*]; done)), H', ⟨Nat.le_refl _⟩, ⟨by (with_reducible repeat (first | apply Kd.R_alloc | apply Kd.R_drewN | apply Kd.R_drew)); exact Kd.R_mono HO_5.out (fun _ hk => hk.2)⟩, ⟨by (with_reducible repeat (first | apply Kd.R_alloc | apply Kd.R_drewN | apply Kd.R_drew)); exact Kd.R_mono HO136.out (fun _ hk => hk.2)⟩, ⟨by (with_reducible repeat (first | refine blk_drewN ?_ _ | refine blk_drew ?_ | refine blk_alloc ?_ _)); exact BK133.out⟩, ⟨by repeat (first | (with_reducible first | exact HB.out | apply below_alloc | apply pw_below_drewN | apply below_drew1 | refine below_set ?_ GE133.out) | exact HB.out)⟩⟩
                      case round =>
                        clear H'
                        try clear c1
                        try clear p1
                        try clear q1
                        try clear hx1
                        try clear p2
                        try clear c4
                        try clear c4b0
                        try clear c4b1
                        try clear c5
                        try clear c5b0
                        try clear c5b1
                        try clear c6
                        try clear c6b0
                        try clear c6b1
                        try clear p6
                        try clear p7
                        try clear q7
                        try clear hx7
                        try clear qi7
                        try clear hf7
                        try clear c12
                        try clear c12b0
                        try clear c13
                        try clear c13b0
                        try clear p13
                        try clear q13
                        try clear hx13
                        try clear c14
                        try clear c14b0
                        try clear c15
                        try clear c15b0
                        try clear c15b1
                        try clear c16
                        try clear c16b0
                        try clear c16b1
                        try clear hcz18_0
                        try clear hcz18_1
                        try clear hcz18_2
                        try clear hfz18_0
                        try clear hfz18_1
                        try clear hfz18_2
                        try clear hx132_0
                        try clear hx132_1
                        try clear hx132_2
                        try clear hx7_0
                        try clear p132
                        try clear p2
                        try clear p6
                        try clear p7
                        try clear q132
                        try clear q7
                        obtain ⟨x8_2, x9_2, rfl, HA, HK2, HO_5, HO_8, BK133, HB⟩ := hrel
                        cases gk with
                        | zero => exact absurd HA.out (by simp [spec_Fits.l1])
                        | succ k2 =>
                          have H := HA.out
                          clear HA
                          simp only [spec_Fits.l1] at H
                          by_cases c21 : x9_2 ≤ (l0.length : Int)
                          · rw [if_pos c21] at H
                            have c21b0 : decide (x9_2 ≤ (l0.length : Int)) = true := decide_eq_true c21
                            clear c21
                            by_cases c22 : ((rd_T56 l1 x18_1).f0) = true
                            · rw [if_pos c22] at H
                              have c22b0 : ((rd_T56 l1 x18_1).f0) = true := c22
                              clear c22
                              by_cases c23 : 0 ≤ x9_2
                              · rw [if_pos c23] at H
                                have c23b0 : decide (0 ≤ x9_2) = true := decide_eq_true c23
                                clear c23
                                by_cases c24 : x9_2 < (x5_1.length : Int)
                                · rw [if_pos c24] at H
                                  have c24b0 : decide (x9_2 < (x5_1.length : Int)) = true := decide_eq_true c24
                                  clear c24
                                  obtain ⟨bq25, hbq25⟩ : ∃ b_ : Bool, b_ = (rdOf false x5_1 x9_2) := ⟨_, rfl⟩
                                  replace H : (if bq25 = true then (if x9_2 < (x8_2.length : Int) then (spec_Fits.l1 k2 l0 x5_1 (x8_2.set (x9_2 : Int).toNat true) (wrap64 (x9_2 + 1)) l1 (l1.length : Int) x18_1 ((rd_T56 l1 x18_1).f0) ((rd_T56 l1 x18_1).f1) ((rd_T56 l1 x18_1).f2)) else (none)) else (if x9_2 > 0 then (if 0 ≤ (wrap64 (x9_2 - 1)) then (if (wrap64 (x9_2 - 1)) < (x8_2.length : Int) then (if x9_2 < (x8_2.length : Int) then (spec_Fits.l1 k2 l0 x5_1 (x8_2.set (x9_2 : Int).toNat (rdOf false x8_2 (wrap64 (x9_2 - 1)))) (wrap64 (x9_2 + 1)) l1 (l1.length : Int) x18_1 ((rd_T56 l1 x18_1).f0) ((rd_T56 l1 x18_1).f1) ((rd_T56 l1 x18_1).f2)) else (none)) else (none)) else (none)) else (if x9_2 < (x8_2.length : Int) then (spec_Fits.l1 k2 l0 x5_1 (x8_2.set (x9_2 : Int).toNat false) (wrap64 (x9_2 + 1)) l1 (l1.length : Int) x18_1 ((rd_T56 l1 x18_1).f0) ((rd_T56 l1 x18_1).f1) ((rd_T56 l1 x18_1).f2)) else (none)))) = some r := by rw [← hbq25] at H; exact H
                                  have Nbq25 := Aside0.mk hbq25
                                  clear hbq25
                                  by_cases c26 : bq25 = true
                                  · subst c26
                                    have H1 : (if x9_2 < (x8_2.length : Int) then (spec_Fits.l1 k2 l0 x5_1 (x8_2.set (x9_2 : Int).toNat true) (wrap64 (x9_2 + 1)) l1 (l1.length : Int) x18_1 ((rd_T56 l1 x18_1).f0) ((rd_T56 l1 x18_1).f1) ((rd_T56 l1 x18_1).f2)) else (none)) = some r := by rw [if_pos rfl] at H; exact H
                                    clear H
                                    have H := H1
                                    clear H1
                                    by_cases c27 : x9_2 < (x8_2.length : Int)
                                    · rw [if_pos c27] at H
                                      have c27b0 : decide (x9_2 < (x8_2.length : Int)) = true := decide_eq_true c27
                                      clear c27
                                      obtain ⟨y138, hy138⟩ : ∃ y_ : List Bool, y_ = (x8_2.set (x9_2 : Int).toNat true) := ⟨_, rfl⟩
                                      replace H : (spec_Fits.l1 k2 l0 x5_1 y138 (wrap64 (x9_2 + 1)) l1 (l1.length : Int) x18_1 ((rd_T56 l1 x18_1).f0) ((rd_T56 l1 x18_1).f1) ((rd_T56 l1 x18_1).f2)) = some r := by first | (rw [hy138]; with_reducible exact H) | (have H2_ := (Option.bind_some _ _).symm.trans H; rw [hy138]; with_reducible exact H2_) | (have H2_ := (Option.bind_some _ _).symm.trans H; with_reducible exact H2_) | with_reducible exact H | (rw [hy138]; exact H) | exact H
                                      have Ny138 := Aside0.mk hy138
                                      clear hy138
                                      have H' := Aside0.mk H
                                      clear H
                                      have hcz29_0 : wr.cell? ⟨gb133, 0, none⟩ = some (.bool ((rd_T56 l1 x18_1).f0)) := (blk_cell BK133.out 0).trans rfl
                                      have hcz29_1 : wr.cell? ⟨gb133, 1, none⟩ = some (.bool ((rd_T56 l1 x18_1).f1)) := (blk_cell BK133.out 1).trans rfl
                                      have hcz29_2 : wr.cell? ⟨gb133, 2, none⟩ = some (.int .i64 ((rd_T56 l1 x18_1).f2)) := (blk_cell BK133.out 2).trans rfl
                                      have hfz29_0 := blk_frozen BK133.out 0
                                      have hfz29_1 := blk_frozen BK133.out 1
                                      have hfz29_2 := blk_frozen BK133.out 2
                                      obtain ⟨Ao30, co30, eo30⟩ := Kd.R_slice HO_5.out
                                      subst eo30
                                      have p137 : 0 ≤ (x9_2 : Int) := of_decide_eq_true (by first | (with_reducible assumption) | assumption)
                                      have q137 : x9_2 < (x5_1.length : Int) := of_decide_eq_true (by first | (with_reducible assumption) | assumption)
                                      obtain ⟨ad137, e137, hx137_0⟩ := Kd.at_bool (Kd.R_reads' HO_5.out).2.2 x9_2 p137 q137
                                      (try rw [← Nbq25.out] at hx137_0)
                                      cases e137
                                      replace p137 := eq_true p137
                                      replace q137 := eq_true q137
                                      have p28 : 0 ≤ (x9_2 : Int) := of_decide_eq_true (by first | (with_reducible assumption) | assumption)
                                      have q28 : (x9_2 : Int) < ((x8_2.length : Int) : Int) := of_decide_eq_true (by first | (with_reducible assumption) | assumption)
                                      obtain ⟨go28, co28, eo28, gb28, gl28, cl28, HG28⟩ := Kd.R_form HO_8.out (by omega)
                                      (first | cases eo28 | (injection eo28 with ea_ en_ ec_; (first | subst ea_ | (injection ea_ with ea_; subst ea_)); subst ec_; clear en_))
                                      have GB28 := Aside0.mk gb28
                                      have GG28 := Aside0.mk HG28
                                      clear gb28 gl28 HG28
                                      obtain ⟨hx28_0, hf28_0⟩ := Kd.R_celln false HO_8.out (x9_2 : Int) p28 q28
                                      replace p28 := eq_true p28
                                      replace q28 := eq_true q28
                                      have HP31 := Kd.R_putg HO_8.out (x9_2 : Int) true
                                      go_wp2_with (first | ((with_reducible refine gate_store (t := 4) (p := 52) rfl ?_); refine store_event (t := 4) (p := 52) (v := ?vo_w32) (w1 := (wr.setCell ⟨go28, (x9_2 : Int).toNat, none⟩ (.bool true))) ?hg ?ho ?hn ?hr ?_; (case ho => rfl); (case hg => rfl); (case hn => rfl); (case hr => first | (go_simp; done) | (go_simp; rfl)); intro w32 hw; have hg : wr.grownBy w32 (some go28) := (by rw [hw]; exact HP31.2); have hp_ : Kd.R Kd.bool 4 w32 w.heap.size (fun k_ => some k_ ≠ (.slice (some ad137) x5_1.length co30 : Value).ownBlock) (.slice (some ⟨go28, 0, none⟩) x8_2.length co28) y138 := (by rw [hw, Ny138.out]; exact HP31.1); clear HP31; have n0_ := Aside0.mk (Kd.R_after (v := (.slice (some ⟨go28, 0, none⟩) x8_2.length co28)) (v1 := (.slice (some ⟨go28, 0, none⟩) x8_2.length co28)) (ok := (fun _ => True)) (by (with_reducible repeat (first | apply Kd.R_alloc | apply Kd.R_drewN | apply Kd.R_drew)); exact Kd.R_mono HO_5.out (fun _ hk => ⟨trivial, hk⟩)) hg (.inl rfl)); have n1_ := Aside0.mk (hp_); have n2_ := Aside0.mk (blk_grown (g := gb133) (o := .cells #[.bool ((rd_T56 l1 x18_1).f0), .bool ((rd_T56 l1 x18_1).f1), .int .i64 ((rd_T56 l1 x18_1).f2)] 56 (0, 0)) (by (with_reducible repeat (first | refine blk_drewN ?_ _ | refine blk_drew ?_ | refine blk_alloc ?_ _)); exact BK133.out) hg (Kd.R_ne HO_8.out BK133.out (by decide))); have n3_ := Aside0.mk ((by rw [hw]; exact below_set (HB.out) GB28.out : Below w.heap.size w w32)); clear HO_5; clear HO_8; clear BK133; clear HB; have HO_5 := n0_; have HO_8 := n1_; have BK133 := n2_; have HB := n3_; clear n0_ n1_ n2_ n3_; clear hg hw hp_))
                                      go_roundg k2
                                      case measure => have := HK1.out; have := HK2.out; omega
                                      case rel => exact ⟨(y138), (wrap64 (x9_2 + 1)), (by first | rfl | (simp; done) | (simp [*]; done)), H', ⟨by have := HK1.out; have := HK2.out; omega⟩, ⟨by (with_reducible repeat (first | apply Kd.R_alloc | apply Kd.R_drewN | apply Kd.R_drew)); exact Kd.R_mono HO_5.out (fun _ hk => hk.2)⟩, ⟨by (with_reducible repeat (first | apply Kd.R_alloc | apply Kd.R_drewN | apply Kd.R_drew)); exact HO_8.out⟩, ⟨by (with_reducible repeat (first | refine blk_drewN ?_ _ | refine blk_drew ?_ | refine blk_alloc ?_ _)); exact BK133.out⟩, ⟨by repeat (first | (with_reducible first | exact HB.out | apply below_alloc | apply pw_below_drewN | apply below_drew1 | refine below_set ?_ GE133.out) | exact HB.out)⟩⟩
                                    · rw [if_neg c27] at H
                                      exact absurd H (by simp)
                                  · replace c26 := Bool.eq_false_iff.mpr c26
                                    subst c26
                                    have H1 : (if x9_2 > 0 then (if 0 ≤ (wrap64 (x9_2 - 1)) then (if (wrap64 (x9_2 - 1)) < (x8_2.length : Int) then (if x9_2 < (x8_2.length : Int) then (spec_Fits.l1 k2 l0 x5_1 (x8_2.set (x9_2 : Int).toNat (rdOf false x8_2 (wrap64 (x9_2 - 1)))) (wrap64 (x9_2 + 1)) l1 (l1.length : Int) x18_1 ((rd_T56 l1 x18_1).f0) ((rd_T56 l1 x18_1).f1) ((rd_T56 l1 x18_1).f2)) else (none)) else (none)) else (none)) else (if x9_2 < (x8_2.length : Int) then (spec_Fits.l1 k2 l0 x5_1 (x8_2.set (x9_2 : Int).toNat false) (wrap64 (x9_2 + 1)) l1 (l1.length : Int) x18_1 ((rd_T56 l1 x18_1).f0) ((rd_T56 l1 x18_1).f1) ((rd_T56 l1 x18_1).f2)) else (none))) = some r := by rw [if_neg (show ¬ (false = true) by decide)] at H; exact H
                                    clear H
                                    have H := H1
                                    clear H1
                                    by_cases c33 : x9_2 > 0
                                    · rw [if_pos c33] at H
                                      have c33b0 : decide (0 < x9_2) = true := decide_eq_true c33
                                      clear c33
                                      obtain ⟨ji34, hji34⟩ : ∃ j_ : Int, (wrap64 (x9_2 - 1)) = j_ := ⟨_, rfl⟩
                                      replace H : (if 0 ≤ (ji34) then (if (ji34) < (x8_2.length : Int) then (if x9_2 < (x8_2.length : Int) then (spec_Fits.l1 k2 l0 x5_1 (x8_2.set (x9_2 : Int).toNat (rdOf false x8_2 (ji34))) (wrap64 (x9_2 + 1)) l1 (l1.length : Int) x18_1 ((rd_T56 l1 x18_1).f0) ((rd_T56 l1 x18_1).f1) ((rd_T56 l1 x18_1).f2)) else (none)) else (none)) else (none)) = some r := by first | (rw [hji34] at H; exact H) | (simp only [hji34] at H ⊢; exact H)
                                      have hji34w : (IntKind.i64.wrap (x9_2 - 1)) = ji34 := (i64_w _).trans hji34
                                      by_cases c35 : 0 ≤ (ji34)
                                      · rw [if_pos c35] at H
                                        have c35b0 : decide (0 ≤ (ji34)) = true := decide_eq_true c35
                                        clear c35
                                        by_cases c36 : (ji34) < (x8_2.length : Int)
                                        · rw [if_pos c36] at H
                                          have c36b0 : decide ((ji34) < (x8_2.length : Int)) = true := decide_eq_true c36
                                          clear c36
                                          by_cases c37 : x9_2 < (x8_2.length : Int)
                                          · rw [if_pos c37] at H
                                            have c37b0 : decide (x9_2 < (x8_2.length : Int)) = true := decide_eq_true c37
                                            clear c37
                                            obtain ⟨y140, hy140⟩ : ∃ y_ : List Bool, y_ = (x8_2.set (x9_2 : Int).toNat (rdOf false x8_2 (ji34))) := ⟨_, rfl⟩
                                            replace H : (spec_Fits.l1 k2 l0 x5_1 y140 (wrap64 (x9_2 + 1)) l1 (l1.length : Int) x18_1 ((rd_T56 l1 x18_1).f0) ((rd_T56 l1 x18_1).f1) ((rd_T56 l1 x18_1).f2)) = some r := by first | (rw [hy140]; with_reducible exact H) | (have H2_ := (Option.bind_some _ _).symm.trans H; rw [hy140]; with_reducible exact H2_) | (have H2_ := (Option.bind_some _ _).symm.trans H; with_reducible exact H2_) | with_reducible exact H | (rw [hy140]; exact H) | exact H
                                            have Ny140 := Aside0.mk hy140
                                            clear hy140
                                            have H' := Aside0.mk H
                                            clear H
                                            have hcz39_0 : wr.cell? ⟨gb133, 0, none⟩ = some (.bool ((rd_T56 l1 x18_1).f0)) := (blk_cell BK133.out 0).trans rfl
                                            have hcz39_1 : wr.cell? ⟨gb133, 1, none⟩ = some (.bool ((rd_T56 l1 x18_1).f1)) := (blk_cell BK133.out 1).trans rfl
                                            have hcz39_2 : wr.cell? ⟨gb133, 2, none⟩ = some (.int .i64 ((rd_T56 l1 x18_1).f2)) := (blk_cell BK133.out 2).trans rfl
                                            have hfz39_0 := blk_frozen BK133.out 0
                                            have hfz39_1 := blk_frozen BK133.out 1
                                            have hfz39_2 := blk_frozen BK133.out 2
                                            obtain ⟨Ao40, co40, eo40⟩ := Kd.R_slice HO_5.out
                                            subst eo40
                                            have p137 : 0 ≤ (x9_2 : Int) := of_decide_eq_true (by first | (with_reducible assumption) | assumption)
                                            have q137 : x9_2 < (x5_1.length : Int) := of_decide_eq_true (by first | (with_reducible assumption) | assumption)
                                            obtain ⟨ad137, e137, hx137_0⟩ := Kd.at_bool (Kd.R_reads' HO_5.out).2.2 x9_2 p137 q137
                                            (try rw [← Nbq25.out] at hx137_0)
                                            cases e137
                                            replace p137 := eq_true p137
                                            replace q137 := eq_true q137
                                            obtain ⟨Ao41, co41, eo41⟩ := Kd.R_slice HO_8.out
                                            subst eo41
                                            have p139 : 0 ≤ ((ji34) : Int) := of_decide_eq_true (by first | (with_reducible assumption) | assumption)
                                            have q139 : (ji34) < (x8_2.length : Int) := of_decide_eq_true (by first | (with_reducible assumption) | assumption)
                                            obtain ⟨ad139, e139, hx139_0⟩ := Kd.at_bool (Kd.R_reads' HO_8.out).2.2 (ji34) p139 q139
                                            (try rw [← Nbq25.out] at hx139_0)
                                            cases e139
                                            replace p139 := eq_true p139
                                            replace q139 := eq_true q139
                                            have p38 : 0 ≤ (x9_2 : Int) := of_decide_eq_true (by first | (with_reducible assumption) | assumption)
                                            have q38 : (x9_2 : Int) < ((x8_2.length : Int) : Int) := of_decide_eq_true (by first | (with_reducible assumption) | assumption)
                                            obtain ⟨go38, co38, eo38, gb38, gl38, cl38, HG38⟩ := Kd.R_form HO_8.out (by omega)
                                            (first | cases eo38 | (injection eo38 with ea_ en_ ec_; (first | subst ea_ | (injection ea_ with ea_; subst ea_)); subst ec_; clear en_))
                                            have GB38 := Aside0.mk gb38
                                            have GG38 := Aside0.mk HG38
                                            clear gb38 gl38 HG38
                                            (first | simp only [add_plain] at hx139_0 | skip)
                                            obtain ⟨hx38_0, hf38_0⟩ := Kd.R_celln false HO_8.out (x9_2 : Int) p38 q38
                                            replace p38 := eq_true p38
                                            replace q38 := eq_true q38
                                            have HP42 := Kd.R_putg HO_8.out (x9_2 : Int) (rdOf false x8_2 (ji34))
                                            go_wp2_with (first | ((with_reducible refine gate_store (t := 4) (p := 52) rfl ?_); refine store_event (t := 4) (p := 52) (v := ?vo_w43) (w1 := (wr.setCell ⟨go38, (x9_2 : Int).toNat, none⟩ (.bool (rdOf false x8_2 (ji34))))) ?hg ?ho ?hn ?hr ?_; (case ho => rfl); (case hg => rfl); (case hn => rfl); (case hr => first | (go_simp; done) | (go_simp; rfl)); intro w43 hw; have hg : wr.grownBy w43 (some go38) := (by rw [hw]; exact HP42.2); have hp_ : Kd.R Kd.bool 4 w43 w.heap.size (fun k_ => some k_ ≠ (.slice (some ad137) x5_1.length co40 : Value).ownBlock) (.slice (some ⟨go38, 0, none⟩) x8_2.length co41) y140 := (by rw [hw, Ny140.out]; exact HP42.1); clear HP42; have n0_ := Aside0.mk (Kd.R_after (v := (.slice (some ⟨go38, 0, none⟩) x8_2.length co41)) (v1 := (.slice (some ⟨go38, 0, none⟩) x8_2.length co41)) (ok := (fun _ => True)) (by (with_reducible repeat (first | apply Kd.R_alloc | apply Kd.R_drewN | apply Kd.R_drew)); exact Kd.R_mono HO_5.out (fun _ hk => ⟨trivial, hk⟩)) hg (.inl rfl)); have n1_ := Aside0.mk (hp_); have n2_ := Aside0.mk (blk_grown (g := gb133) (o := .cells #[.bool ((rd_T56 l1 x18_1).f0), .bool ((rd_T56 l1 x18_1).f1), .int .i64 ((rd_T56 l1 x18_1).f2)] 56 (0, 0)) (by (with_reducible repeat (first | refine blk_drewN ?_ _ | refine blk_drew ?_ | refine blk_alloc ?_ _)); exact BK133.out) hg (Kd.R_ne HO_8.out BK133.out (by decide))); have n3_ := Aside0.mk ((by rw [hw]; exact below_set (HB.out) GB38.out : Below w.heap.size w w43)); clear HO_5; clear HO_8; clear BK133; clear HB; have HO_5 := n0_; have HO_8 := n1_; have BK133 := n2_; have HB := n3_; clear n0_ n1_ n2_ n3_; clear hg hw hp_))
                                            go_roundg k2
                                            case measure => have := HK1.out; have := HK2.out; omega
                                            case rel => exact ⟨(y140), (wrap64 (x9_2 + 1)), (by first | rfl | (simp; done) | (simp [*]; done)), H', ⟨by have := HK1.out; have := HK2.out; omega⟩, ⟨by (with_reducible repeat (first | apply Kd.R_alloc | apply Kd.R_drewN | apply Kd.R_drew)); exact Kd.R_mono HO_5.out (fun _ hk => hk.2)⟩, ⟨by (with_reducible repeat (first | apply Kd.R_alloc | apply Kd.R_drewN | apply Kd.R_drew)); exact HO_8.out⟩, ⟨by (with_reducible repeat (first | refine blk_drewN ?_ _ | refine blk_drew ?_ | refine blk_alloc ?_ _)); exact BK133.out⟩, ⟨by repeat (first | (with_reducible first | exact HB.out | apply below_alloc | apply pw_below_drewN | apply below_drew1 | refine below_set ?_ GE133.out) | exact HB.out)⟩⟩
                                          · rw [if_neg c37] at H
                                            exact absurd H (by simp)
                                        · rw [if_neg c36] at H
                                          exact absurd H (by simp)
                                      · rw [if_neg c35] at H
                                        exact absurd H (by simp)
                                    · rw [if_neg c33] at H
                                      have c33b0 : decide (0 < x9_2) = false := decide_eq_false c33
                                      clear c33
                                      by_cases c44 : x9_2 < (x8_2.length : Int)
                                      · rw [if_pos c44] at H
                                        have c44b0 : decide (x9_2 < (x8_2.length : Int)) = true := decide_eq_true c44
                                        clear c44
                                        obtain ⟨y141, hy141⟩ : ∃ y_ : List Bool, y_ = (x8_2.set (x9_2 : Int).toNat false) := ⟨_, rfl⟩
                                        replace H : (spec_Fits.l1 k2 l0 x5_1 y141 (wrap64 (x9_2 + 1)) l1 (l1.length : Int) x18_1 ((rd_T56 l1 x18_1).f0) ((rd_T56 l1 x18_1).f1) ((rd_T56 l1 x18_1).f2)) = some r := by first | (rw [hy141]; with_reducible exact H) | (have H2_ := (Option.bind_some _ _).symm.trans H; rw [hy141]; with_reducible exact H2_) | (have H2_ := (Option.bind_some _ _).symm.trans H; with_reducible exact H2_) | with_reducible exact H | (rw [hy141]; exact H) | exact H
                                        have Ny141 := Aside0.mk hy141
                                        clear hy141
                                        have H' := Aside0.mk H
                                        clear H
                                        have hcz46_0 : wr.cell? ⟨gb133, 0, none⟩ = some (.bool ((rd_T56 l1 x18_1).f0)) := (blk_cell BK133.out 0).trans rfl
                                        have hcz46_1 : wr.cell? ⟨gb133, 1, none⟩ = some (.bool ((rd_T56 l1 x18_1).f1)) := (blk_cell BK133.out 1).trans rfl
                                        have hcz46_2 : wr.cell? ⟨gb133, 2, none⟩ = some (.int .i64 ((rd_T56 l1 x18_1).f2)) := (blk_cell BK133.out 2).trans rfl
                                        have hfz46_0 := blk_frozen BK133.out 0
                                        have hfz46_1 := blk_frozen BK133.out 1
                                        have hfz46_2 := blk_frozen BK133.out 2
                                        obtain ⟨Ao47, co47, eo47⟩ := Kd.R_slice HO_5.out
                                        subst eo47
                                        have p137 : 0 ≤ (x9_2 : Int) := of_decide_eq_true (by first | (with_reducible assumption) | assumption)
                                        have q137 : x9_2 < (x5_1.length : Int) := of_decide_eq_true (by first | (with_reducible assumption) | assumption)
                                        obtain ⟨ad137, e137, hx137_0⟩ := Kd.at_bool (Kd.R_reads' HO_5.out).2.2 x9_2 p137 q137
                                        (try rw [← Nbq25.out] at hx137_0)
                                        cases e137
                                        replace p137 := eq_true p137
                                        replace q137 := eq_true q137
                                        have p45 : 0 ≤ (x9_2 : Int) := of_decide_eq_true (by first | (with_reducible assumption) | assumption)
                                        have q45 : (x9_2 : Int) < ((x8_2.length : Int) : Int) := of_decide_eq_true (by first | (with_reducible assumption) | assumption)
                                        obtain ⟨go45, co45, eo45, gb45, gl45, cl45, HG45⟩ := Kd.R_form HO_8.out (by omega)
                                        (first | cases eo45 | (injection eo45 with ea_ en_ ec_; (first | subst ea_ | (injection ea_ with ea_; subst ea_)); subst ec_; clear en_))
                                        have GB45 := Aside0.mk gb45
                                        have GG45 := Aside0.mk HG45
                                        clear gb45 gl45 HG45
                                        obtain ⟨hx45_0, hf45_0⟩ := Kd.R_celln false HO_8.out (x9_2 : Int) p45 q45
                                        replace p45 := eq_true p45
                                        replace q45 := eq_true q45
                                        have HP48 := Kd.R_putg HO_8.out (x9_2 : Int) false
                                        go_wp2_with (first | ((with_reducible refine gate_store (t := 4) (p := 52) rfl ?_); refine store_event (t := 4) (p := 52) (v := ?vo_w49) (w1 := (wr.setCell ⟨go45, (x9_2 : Int).toNat, none⟩ (.bool false))) ?hg ?ho ?hn ?hr ?_; (case ho => rfl); (case hg => rfl); (case hn => rfl); (case hr => first | (go_simp; done) | (go_simp; rfl)); intro w49 hw; have hg : wr.grownBy w49 (some go45) := (by rw [hw]; exact HP48.2); have hp_ : Kd.R Kd.bool 4 w49 w.heap.size (fun k_ => some k_ ≠ (.slice (some ad137) x5_1.length co47 : Value).ownBlock) (.slice (some ⟨go45, 0, none⟩) x8_2.length co45) y141 := (by rw [hw, Ny141.out]; exact HP48.1); clear HP48; have n0_ := Aside0.mk (Kd.R_after (v := (.slice (some ⟨go45, 0, none⟩) x8_2.length co45)) (v1 := (.slice (some ⟨go45, 0, none⟩) x8_2.length co45)) (ok := (fun _ => True)) (by (with_reducible repeat (first | apply Kd.R_alloc | apply Kd.R_drewN | apply Kd.R_drew)); exact Kd.R_mono HO_5.out (fun _ hk => ⟨trivial, hk⟩)) hg (.inl rfl)); have n1_ := Aside0.mk (hp_); have n2_ := Aside0.mk (blk_grown (g := gb133) (o := .cells #[.bool ((rd_T56 l1 x18_1).f0), .bool ((rd_T56 l1 x18_1).f1), .int .i64 ((rd_T56 l1 x18_1).f2)] 56 (0, 0)) (by (with_reducible repeat (first | refine blk_drewN ?_ _ | refine blk_drew ?_ | refine blk_alloc ?_ _)); exact BK133.out) hg (Kd.R_ne HO_8.out BK133.out (by decide))); have n3_ := Aside0.mk ((by rw [hw]; exact below_set (HB.out) GB45.out : Below w.heap.size w w49)); clear HO_5; clear HO_8; clear BK133; clear HB; have HO_5 := n0_; have HO_8 := n1_; have BK133 := n2_; have HB := n3_; clear n0_ n1_ n2_ n3_; clear hg hw hp_))
                                        go_roundg k2
                                        case measure => have := HK1.out; have := HK2.out; omega
                                        case rel => exact ⟨(y141), (wrap64 (x9_2 + 1)), (by first | rfl | (simp; done) | (simp [*]; done)), H', ⟨by have := HK1.out; have := HK2.out; omega⟩, ⟨by (with_reducible repeat (first | apply Kd.R_alloc | apply Kd.R_drewN | apply Kd.R_drew)); exact Kd.R_mono HO_5.out (fun _ hk => hk.2)⟩, ⟨by (with_reducible repeat (first | apply Kd.R_alloc | apply Kd.R_drewN | apply Kd.R_drew)); exact HO_8.out⟩, ⟨by (with_reducible repeat (first | refine blk_drewN ?_ _ | refine blk_drew ?_ | refine blk_alloc ?_ _)); exact BK133.out⟩, ⟨by repeat (first | (with_reducible first | exact HB.out | apply below_alloc | apply pw_below_drewN | apply below_drew1 | refine below_set ?_ GE133.out) | exact HB.out)⟩⟩
                                      · rw [if_neg c44] at H
                                        exact absurd H (by simp)
                                · rw [if_neg c24] at H
                                  exact absurd H (by simp)
                              · rw [if_neg c23] at H
                                exact absurd H (by simp)
                            · rw [if_neg c22] at H
                              have c22b0 : ((rd_T56 l1 x18_1).f0) = false := by simpa using c22
                              clear c22
                              by_cases c50 : x9_2 > 0
                              · rw [if_pos c50] at H
                                have c50b0 : decide (0 < x9_2) = true := decide_eq_true c50
                                clear c50
                                obtain ⟨ji51, hji51⟩ : ∃ j_ : Int, (wrap64 (x9_2 - 1)) = j_ := ⟨_, rfl⟩
                                replace H : (if 0 ≤ (ji51) then (if (ji51) < (x5_1.length : Int) then (if rdOf false x5_1 (ji51) = true then (if ((rd_T56 l1 x18_1).f1) = true then (if 0 ≤ x9_2 then (if x9_2 < (x8_2.length : Int) then (spec_Fits.l1 k2 l0 x5_1 (x8_2.set (x9_2 : Int).toNat true) (wrap64 (x9_2 + 1)) l1 (l1.length : Int) x18_1 ((rd_T56 l1 x18_1).f0) ((rd_T56 l1 x18_1).f1) ((rd_T56 l1 x18_1).f2)) else (none)) else (none)) else (if (ji51) < (l0.length : Int) then (if 0 ≤ x9_2 then (if x9_2 < (x8_2.length : Int) then (spec_Fits.l1 k2 l0 x5_1 (x8_2.set (x9_2 : Int).toNat (((rd_T56 l1 x18_1).f2) == (rd l0 (ji51)))) (wrap64 (x9_2 + 1)) l1 (l1.length : Int) x18_1 ((rd_T56 l1 x18_1).f0) ((rd_T56 l1 x18_1).f1) ((rd_T56 l1 x18_1).f2)) else (none)) else (none)) else (none))) else (spec_Fits.l1 k2 l0 x5_1 x8_2 (wrap64 (x9_2 + 1)) l1 (l1.length : Int) x18_1 ((rd_T56 l1 x18_1).f0) ((rd_T56 l1 x18_1).f1) ((rd_T56 l1 x18_1).f2))) else (none)) else (none)) = some r := by first | (rw [hji51] at H; exact H) | (simp only [hji51] at H ⊢; exact H)
                                have hji51w : (IntKind.i64.wrap (x9_2 - 1)) = ji51 := (i64_w _).trans hji51
                                by_cases c52 : 0 ≤ (ji51)
                                · rw [if_pos c52] at H
                                  have c52b0 : decide (0 ≤ (ji51)) = true := decide_eq_true c52
                                  clear c52
                                  by_cases c53 : (ji51) < (x5_1.length : Int)
                                  · rw [if_pos c53] at H
                                    have c53b0 : decide ((ji51) < (x5_1.length : Int)) = true := decide_eq_true c53
                                    clear c53
                                    obtain ⟨bq54, hbq54⟩ : ∃ b_ : Bool, b_ = (rdOf false x5_1 (ji51)) := ⟨_, rfl⟩
                                    replace H : (if bq54 = true then (if ((rd_T56 l1 x18_1).f1) = true then (if 0 ≤ x9_2 then (if x9_2 < (x8_2.length : Int) then (spec_Fits.l1 k2 l0 x5_1 (x8_2.set (x9_2 : Int).toNat true) (wrap64 (x9_2 + 1)) l1 (l1.length : Int) x18_1 ((rd_T56 l1 x18_1).f0) ((rd_T56 l1 x18_1).f1) ((rd_T56 l1 x18_1).f2)) else (none)) else (none)) else (if (ji51) < (l0.length : Int) then (if 0 ≤ x9_2 then (if x9_2 < (x8_2.length : Int) then (spec_Fits.l1 k2 l0 x5_1 (x8_2.set (x9_2 : Int).toNat (((rd_T56 l1 x18_1).f2) == (rd l0 (ji51)))) (wrap64 (x9_2 + 1)) l1 (l1.length : Int) x18_1 ((rd_T56 l1 x18_1).f0) ((rd_T56 l1 x18_1).f1) ((rd_T56 l1 x18_1).f2)) else (none)) else (none)) else (none))) else (spec_Fits.l1 k2 l0 x5_1 x8_2 (wrap64 (x9_2 + 1)) l1 (l1.length : Int) x18_1 ((rd_T56 l1 x18_1).f0) ((rd_T56 l1 x18_1).f1) ((rd_T56 l1 x18_1).f2))) = some r := by rw [← hbq54] at H; exact H
                                    have Nbq54 := Aside0.mk hbq54
                                    clear hbq54
                                    by_cases c55 : bq54 = true
                                    · subst c55
                                      have H1 : (if ((rd_T56 l1 x18_1).f1) = true then (if 0 ≤ x9_2 then (if x9_2 < (x8_2.length : Int) then (spec_Fits.l1 k2 l0 x5_1 (x8_2.set (x9_2 : Int).toNat true) (wrap64 (x9_2 + 1)) l1 (l1.length : Int) x18_1 ((rd_T56 l1 x18_1).f0) ((rd_T56 l1 x18_1).f1) ((rd_T56 l1 x18_1).f2)) else (none)) else (none)) else (if (ji51) < (l0.length : Int) then (if 0 ≤ x9_2 then (if x9_2 < (x8_2.length : Int) then (spec_Fits.l1 k2 l0 x5_1 (x8_2.set (x9_2 : Int).toNat (((rd_T56 l1 x18_1).f2) == (rd l0 (ji51)))) (wrap64 (x9_2 + 1)) l1 (l1.length : Int) x18_1 ((rd_T56 l1 x18_1).f0) ((rd_T56 l1 x18_1).f1) ((rd_T56 l1 x18_1).f2)) else (none)) else (none)) else (none))) = some r := by rw [if_pos rfl] at H; exact H
                                      clear H
                                      have H := H1
                                      clear H1
                                      by_cases c56 : ((rd_T56 l1 x18_1).f1) = true
                                      · rw [if_pos c56] at H
                                        have c56b0 : ((rd_T56 l1 x18_1).f1) = true := c56
                                        clear c56
                                        by_cases c57 : 0 ≤ x9_2
                                        · rw [if_pos c57] at H
                                          have c57b0 : decide (0 ≤ x9_2) = true := decide_eq_true c57
                                          clear c57
                                          by_cases c58 : x9_2 < (x8_2.length : Int)
                                          · rw [if_pos c58] at H
                                            have c58b0 : decide (x9_2 < (x8_2.length : Int)) = true := decide_eq_true c58
                                            clear c58
                                            obtain ⟨y143, hy143⟩ : ∃ y_ : List Bool, y_ = (x8_2.set (x9_2 : Int).toNat true) := ⟨_, rfl⟩
                                            replace H : (spec_Fits.l1 k2 l0 x5_1 y143 (wrap64 (x9_2 + 1)) l1 (l1.length : Int) x18_1 ((rd_T56 l1 x18_1).f0) ((rd_T56 l1 x18_1).f1) ((rd_T56 l1 x18_1).f2)) = some r := by first | (rw [hy143]; with_reducible exact H) | (have H2_ := (Option.bind_some _ _).symm.trans H; rw [hy143]; with_reducible exact H2_) | (have H2_ := (Option.bind_some _ _).symm.trans H; with_reducible exact H2_) | with_reducible exact H | (rw [hy143]; exact H) | exact H
                                            have Ny143 := Aside0.mk hy143
                                            clear hy143
                                            have H' := Aside0.mk H
                                            clear H
                                            have hcz60_0 : wr.cell? ⟨gb133, 0, none⟩ = some (.bool ((rd_T56 l1 x18_1).f0)) := (blk_cell BK133.out 0).trans rfl
                                            have hcz60_1 : wr.cell? ⟨gb133, 1, none⟩ = some (.bool ((rd_T56 l1 x18_1).f1)) := (blk_cell BK133.out 1).trans rfl
                                            have hcz60_2 : wr.cell? ⟨gb133, 2, none⟩ = some (.int .i64 ((rd_T56 l1 x18_1).f2)) := (blk_cell BK133.out 2).trans rfl
                                            have hfz60_0 := blk_frozen BK133.out 0
                                            have hfz60_1 := blk_frozen BK133.out 1
                                            have hfz60_2 := blk_frozen BK133.out 2
                                            obtain ⟨Ao61, co61, eo61⟩ := Kd.R_slice HO_5.out
                                            subst eo61
                                            have p142 : 0 ≤ ((ji51) : Int) := of_decide_eq_true (by first | (with_reducible assumption) | assumption)
                                            have q142 : (ji51) < (x5_1.length : Int) := of_decide_eq_true (by first | (with_reducible assumption) | assumption)
                                            obtain ⟨ad142, e142, hx142_0⟩ := Kd.at_bool (Kd.R_reads' HO_5.out).2.2 (ji51) p142 q142
                                            (try rw [← Nbq54.out] at hx142_0)
                                            cases e142
                                            replace p142 := eq_true p142
                                            replace q142 := eq_true q142
                                            try go_wp2
                                            have n0_ := Aside0.mk (Kd.R_drew HO_5.out)
                                            have n1_ := Aside0.mk (Kd.R_drew HO_8.out)
                                            have n2_ := Aside0.mk (blk_drew BK133.out)
                                            have n3_ := Aside0.mk (below_drew1 HB.out)
                                            clear HO_5
                                            clear HO_8
                                            clear BK133
                                            clear HB
                                            have HO_5 := n0_
                                            have HO_8 := n1_
                                            have BK133 := n2_
                                            have HB := n3_
                                            clear n0_ n1_ n2_ n3_
                                            have p59 : 0 ≤ (x9_2 : Int) := of_decide_eq_true (by first | (with_reducible assumption) | assumption)
                                            have q59 : (x9_2 : Int) < ((x8_2.length : Int) : Int) := of_decide_eq_true (by first | (with_reducible assumption) | assumption)
                                            obtain ⟨go59, co59, eo59, gb59, gl59, cl59, HG59⟩ := Kd.R_form HO_8.out (by omega)
                                            (first | cases eo59 | (injection eo59 with ea_ en_ ec_; (first | subst ea_ | (injection ea_ with ea_; subst ea_)); subst ec_; clear en_))
                                            have GB59 := Aside0.mk gb59
                                            have GG59 := Aside0.mk HG59
                                            clear gb59 gl59 HG59
                                            obtain ⟨hx59_0, hf59_0⟩ := Kd.R_celln false HO_8.out (x9_2 : Int) p59 q59
                                            replace p59 := eq_true p59
                                            replace q59 := eq_true q59
                                            have HP63 := Kd.R_putn HO_8.out (x9_2 : Int) true
                                            rw [← Ny143.out] at HP63
                                            have HQ63 := Aside0.mk HP63
                                            clear HP63
                                            refine start_ (n := 16) (S := fun w' => w'.cell? ⟨gb133, 0, none⟩ = some (.bool ((rd_T56 l1 x18_1).f0)) ∧ w'.cell? ⟨gb133, 1, none⟩ = some (.bool ((rd_T56 l1 x18_1).f1)) ∧ w'.cell? ⟨gb133, 2, none⟩ = some (.int .i64 ((rd_T56 l1 x18_1).f2))) (ds := [15]) #[false, false, false, false, false, false, false, false, false, false, false, false, false, false, false, false] (by kernel_rfl) rfl rfl ⟨(blk_cell BK133.out 0).trans rfl, (blk_cell BK133.out 1).trans rfl, (blk_cell BK133.out 2).trans rfl⟩ (fun hHeld => ?_); refine with_tabW spec_Fits.tab13 spec_Fits.bits13 (fun HT_ HW_ => ?_)
                                            generalize wr.drew = w62 at HO_5 HO_8 BK133 HB GG59 HQ63 hf59_0 hx59_0 hHeld ⊢
                                            refine pure_ (i := 0) (N := some 63) (v := ?_) (a' := ?_) #[true, false, false, false, false, false, false, false, false, false, false, false, false, false, false, false] rfl rfl (any_of HT_.out (by kernel_rfl)) (fun _ _ _ h => h) (Or.inl ⟨by rfl, ?_⟩) ?_ ?_
                                            rotate_left
                                            · intro w'
                                              go_simp
                                              with_reducible rfl
                                            rotate_left
                                            · simp only [Act.put, List.setIfInBounds_toArray, List.set_cons_zero, List.set_cons_succ, i64_w, i32_w]
                                              rfl
                                            refine pure_ (i := 1) (N := some 64) (v := ?_) (a' := ?_) #[true, true, false, false, false, false, false, false, false, false, false, false, false, false, false, false] rfl rfl (any_of HT_.out (by kernel_rfl)) (fun _ _ _ h => h) (Or.inl ⟨by rfl, ?_⟩) ?_ ?_
                                            rotate_left
                                            · intro w'
                                              go_simp
                                              with_reducible rfl
                                            rotate_left
                                            · simp only [Act.put, List.setIfInBounds_toArray, List.set_cons_zero, List.set_cons_succ, i64_w, i32_w]
                                              rfl
                                            refine pure_ (i := 2) (N := some 65) (v := ?_) (a' := ?_) #[true, true, true, false, false, false, false, false, false, false, false, false, false, false, false, false] rfl rfl (any_of HT_.out (by kernel_rfl)) (fun _ _ _ h => h) (Or.inl ⟨by rfl, ?_⟩) ?_ ?_
                                            rotate_left
                                            · intro w'
                                              go_simp
                                              with_reducible rfl
                                            rotate_left
                                            · simp only [Act.put, List.setIfInBounds_toArray, List.set_cons_zero, List.set_cons_succ, i64_w, i32_w]
                                              rfl
                                            refine take_ (i := 3) (N := some 66) (v := ?_) (a' := ?_) #[true, true, true, true, false, false, false, false, false, false, false, false, false, false, false, false] rfl rfl (take_ofW HT_.out HW_.out (by kernel_rfl)) (fun _ _ _ h => h) (Or.inl ⟨by rfl, ?_⟩) hHeld ?_ ?_
                                            rotate_left
                                            · rintro w' ⟨s0, s1, s2⟩
                                              go_simp
                                              with_reducible rfl
                                            rotate_left
                                            · simp only [Act.put, List.setIfInBounds_toArray, List.set_cons_zero, List.set_cons_succ, i64_w, i32_w]
                                              rfl
                                            refine pure_ (i := 4) (N := some 67) (v := ?_) (a' := ?_) #[true, true, true, true, true, false, false, false, false, false, false, false, false, false, false, false] rfl rfl (any_of HT_.out (by kernel_rfl)) (fun _ _ _ h => h) (Or.inl ⟨by rfl, ?_⟩) ?_ ?_
                                            rotate_left
                                            · intro w'
                                              go_simp
                                              with_reducible rfl
                                            rotate_left
                                            · simp only [Act.put, List.setIfInBounds_toArray, List.set_cons_zero, List.set_cons_succ, i64_w, i32_w]
                                              rfl
                                            refine pure_ (i := 5) (N := some 68) (v := undef) (a' := ?_) #[true, true, true, true, true, true, false, false, false, false, false, false, false, false, false, false] rfl rfl (any_of HT_.out (by kernel_rfl)) (fun _ _ _ h => h) (Or.inr ⟨by rfl, rfl⟩) ?_ ?_
                                            rotate_left
                                            · simp only [Act.put, List.setIfInBounds_toArray, List.set_cons_zero, List.set_cons_succ, i64_w, i32_w]
                                              rfl
                                            refine pure_ (i := 6) (N := some 69) (v := undef) (a' := ?_) #[true, true, true, true, true, true, true, false, false, false, false, false, false, false, false, false] rfl rfl (any_of HT_.out (by kernel_rfl)) (fun _ _ _ h => h) (Or.inr ⟨by rfl, rfl⟩) ?_ ?_
                                            rotate_left
                                            · simp only [Act.put, List.setIfInBounds_toArray, List.set_cons_zero, List.set_cons_succ, i64_w, i32_w]
                                              rfl
                                            refine pure_ (i := 7) (N := some 70) (v := undef) (a' := ?_) #[true, true, true, true, true, true, true, true, false, false, false, false, false, false, false, false] rfl rfl (any_of HT_.out (by kernel_rfl)) (fun _ _ _ h => h) (Or.inr ⟨by rfl, rfl⟩) ?_ ?_
                                            rotate_left
                                            · simp only [Act.put, List.setIfInBounds_toArray, List.set_cons_zero, List.set_cons_succ, i64_w, i32_w]
                                              rfl
                                            refine pure_ (i := 8) (N := some 71) (v := undef) (a' := ?_) #[true, true, true, true, true, true, true, true, true, false, false, false, false, false, false, false] rfl rfl (any_of HT_.out (by kernel_rfl)) (fun _ _ _ h => h) (Or.inr ⟨by rfl, rfl⟩) ?_ ?_
                                            rotate_left
                                            · simp only [Act.put, List.setIfInBounds_toArray, List.set_cons_zero, List.set_cons_succ, i64_w, i32_w]
                                              rfl
                                            refine pure_ (i := 9) (N := some 72) (v := undef) (a' := ?_) #[true, true, true, true, true, true, true, true, true, true, false, false, false, false, false, false] rfl rfl (any_of HT_.out (by kernel_rfl)) (fun _ _ _ h => h) (Or.inr ⟨by rfl, rfl⟩) ?_ ?_
                                            rotate_left
                                            · simp only [Act.put, List.setIfInBounds_toArray, List.set_cons_zero, List.set_cons_succ, i64_w, i32_w]
                                              rfl
                                            refine pure_ (i := 10) (N := some 73) (v := undef) (a' := ?_) #[true, true, true, true, true, true, true, true, true, true, true, false, false, false, false, false] rfl rfl (any_of HT_.out (by kernel_rfl)) (fun _ _ _ h => h) (Or.inr ⟨by rfl, rfl⟩) ?_ ?_
                                            rotate_left
                                            · simp only [Act.put, List.setIfInBounds_toArray, List.set_cons_zero, List.set_cons_succ, i64_w, i32_w]
                                              rfl
                                            refine pure_ (i := 11) (N := some 74) (v := undef) (a' := ?_) #[true, true, true, true, true, true, true, true, true, true, true, true, false, false, false, false] rfl rfl (any_of HT_.out (by kernel_rfl)) (fun _ _ _ h => h) (Or.inr ⟨by rfl, rfl⟩) ?_ ?_
                                            rotate_left
                                            · simp only [Act.put, List.setIfInBounds_toArray, List.set_cons_zero, List.set_cons_succ, i64_w, i32_w]
                                              rfl
                                            refine pure_ (i := 12) (N := some 75) (v := undef) (a' := ?_) #[true, true, true, true, true, true, true, true, true, true, true, true, true, false, false, false] rfl rfl (any_of HT_.out (by kernel_rfl)) (fun _ _ _ h => h) (Or.inr ⟨by rfl, rfl⟩) ?_ ?_
                                            rotate_left
                                            · simp only [Act.put, List.setIfInBounds_toArray, List.set_cons_zero, List.set_cons_succ, i64_w, i32_w]
                                              rfl
                                            refine pure_ (i := 13) (N := some 76) (v := ?_) (a' := ?_) #[true, true, true, true, true, true, true, true, true, true, true, true, true, true, false, false] rfl rfl (any_of HT_.out (by kernel_rfl)) (fun _ _ _ h => h) (Or.inl ⟨by rfl, ?_⟩) ?_ ?_
                                            rotate_left
                                            · intro w'
                                              go_simp
                                              with_reducible rfl
                                            rotate_left
                                            · simp only [Act.put, List.setIfInBounds_toArray, List.set_cons_zero, List.set_cons_succ, i64_w, i32_w]
                                              rfl
                                            refine pure_ (i := 14) (N := some 77) (v := ?_) (a' := ?_) #[true, true, true, true, true, true, true, true, true, true, true, true, true, true, true, false] rfl rfl (any_of HT_.out (by kernel_rfl)) (fun _ _ _ h => h) (Or.inl ⟨by rfl, ?_⟩) ?_ ?_
                                            rotate_left
                                            · intro w'
                                              go_simp
                                              with_reducible rfl
                                            rotate_left
                                            · simp only [Act.put, List.setIfInBounds_toArray, List.set_cons_zero, List.set_cons_succ, i64_w, i32_w]
                                              rfl
                                            refine last_ (i := 15) (N := none) #[true, true, true, true, true, true, true, true, true, true, true, true, true, true, true, true] rfl rfl (one_of HT_.out (by kernel_rfl)) (by decide) (fun K hK => ?_)
                                            refine skip_ (w1 := ?_) (by rfl) rfl ?_ ?_
                                            rotate_left
                                            · go_simp
                                              rfl
                                            refine hK.out _ _ ?_
                                            clear hK K
                                            refine done_ (done_of HT_.out (by kernel_rfl)) ?_
                                            try go_wp2
                                            go_roundg k2
                                            case measure => have := HK1.out; have := HK2.out; omega
                                            case rel => exact ⟨(y143), (wrap64 (x9_2 + 1)), (by first | rfl | (simp; done) | (simp [*]; done)), H', ⟨by have := HK1.out; have := HK2.out; omega⟩, ⟨by (with_reducible repeat (first | apply Kd.R_alloc | apply Kd.R_drewN | apply Kd.R_drew)); exact Kd.R_mono (Kd.R_far (p := ⟨go59, (x9_2 : Int).toNat, none⟩) (Kd.R_mono HO_5.out (fun k_ hk => (⟨hk, fun e_ => hk (by rw [e_]; rfl)⟩ : _ ∧ k_ ≠ go59))) (fun _ hk => hk.2) (.bool true)) (fun _ hk => hk.1)⟩, ⟨by (with_reducible repeat (first | apply Kd.R_alloc | apply Kd.R_drewN | apply Kd.R_drew)); exact HQ63.out⟩, ⟨by (with_reducible repeat (first | refine blk_drewN ?_ _ | refine blk_drew ?_ | refine blk_alloc ?_ _)); refine blk_far ?_ (by have h_ := Kd.R_ne HO_8.out BK133.out (by decide); intro e_; exact h_ (by rw [e_]; rfl)) _; (with_reducible repeat (first | refine blk_drewN ?_ _ | refine blk_drew ?_ | refine blk_alloc ?_ _)); exact BK133.out⟩, ⟨by repeat (first | (with_reducible first | exact HB.out | apply below_alloc | apply pw_below_drewN | apply below_drew1 | refine below_set ?_ GB59.out | refine below_set ?_ GE133.out) | exact HB.out)⟩⟩
                                          · rw [if_neg c58] at H
                                            exact absurd H (by simp)
                                        · rw [if_neg c57] at H
                                          exact absurd H (by simp)
                                      · rw [if_neg c56] at H
                                        have c56b0 : ((rd_T56 l1 x18_1).f1) = false := by simpa using c56
                                        clear c56
                                        by_cases c64 : (ji51) < (l0.length : Int)
                                        · rw [if_pos c64] at H
                                          have c64b0 : decide ((ji51) < (l0.length : Int)) = true := decide_eq_true c64
                                          clear c64
                                          by_cases c65 : 0 ≤ x9_2
                                          · rw [if_pos c65] at H
                                            have c65b0 : decide (0 ≤ x9_2) = true := decide_eq_true c65
                                            clear c65
                                            by_cases c66 : x9_2 < (x8_2.length : Int)
                                            · rw [if_pos c66] at H
                                              have c66b0 : decide (x9_2 < (x8_2.length : Int)) = true := decide_eq_true c66
                                              clear c66
                                              obtain ⟨y145, hy145⟩ : ∃ y_ : List Bool, y_ = (x8_2.set (x9_2 : Int).toNat (((rd_T56 l1 x18_1).f2) == (rd l0 (ji51)))) := ⟨_, rfl⟩
                                              replace H : (spec_Fits.l1 k2 l0 x5_1 y145 (wrap64 (x9_2 + 1)) l1 (l1.length : Int) x18_1 ((rd_T56 l1 x18_1).f0) ((rd_T56 l1 x18_1).f1) ((rd_T56 l1 x18_1).f2)) = some r := by first | (rw [hy145]; with_reducible exact H) | (have H2_ := (Option.bind_some _ _).symm.trans H; rw [hy145]; with_reducible exact H2_) | (have H2_ := (Option.bind_some _ _).symm.trans H; with_reducible exact H2_) | with_reducible exact H | (rw [hy145]; exact H) | exact H
                                              have Ny145 := Aside0.mk hy145
                                              clear hy145
                                              have H' := Aside0.mk H
                                              clear H
                                              have hcz68_0 : wr.cell? ⟨gb133, 0, none⟩ = some (.bool ((rd_T56 l1 x18_1).f0)) := (blk_cell BK133.out 0).trans rfl
                                              have hcz68_1 : wr.cell? ⟨gb133, 1, none⟩ = some (.bool ((rd_T56 l1 x18_1).f1)) := (blk_cell BK133.out 1).trans rfl
                                              have hcz68_2 : wr.cell? ⟨gb133, 2, none⟩ = some (.int .i64 ((rd_T56 l1 x18_1).f2)) := (blk_cell BK133.out 2).trans rfl
                                              have hfz68_0 := blk_frozen BK133.out 0
                                              have hfz68_1 := blk_frozen BK133.out 1
                                              have hfz68_2 := blk_frozen BK133.out 2
                                              obtain ⟨Ao69, co69, eo69⟩ := Kd.R_slice HO_5.out
                                              subst eo69
                                              have p142 : 0 ≤ ((ji51) : Int) := of_decide_eq_true (by first | (with_reducible assumption) | assumption)
                                              have q142 : (ji51) < (x5_1.length : Int) := of_decide_eq_true (by first | (with_reducible assumption) | assumption)
                                              obtain ⟨ad142, e142, hx142_0⟩ := Kd.at_bool (Kd.R_reads' HO_5.out).2.2 (ji51) p142 q142
                                              (try rw [← Nbq54.out] at hx142_0)
                                              cases e142
                                              replace p142 := eq_true p142
                                              replace q142 := eq_true q142
                                              try go_wp2
                                              have n0_ := Aside0.mk (Kd.R_drew HO_5.out)
                                              have n1_ := Aside0.mk (Kd.R_drew HO_8.out)
                                              have n2_ := Aside0.mk (blk_drew BK133.out)
                                              have n3_ := Aside0.mk (below_drew1 HB.out)
                                              clear HO_5
                                              clear HO_8
                                              clear BK133
                                              clear HB
                                              have HO_5 := n0_
                                              have HO_8 := n1_
                                              have BK133 := n2_
                                              have HB := n3_
                                              clear n0_ n1_ n2_ n3_
                                              have p144 : 0 ≤ ((ji51) : Int) := of_decide_eq_true (by first | (with_reducible assumption) | assumption)
                                              have q144 : (ji51) < (l0.length : Int) := of_decide_eq_true (by first | (with_reducible assumption) | assumption)
                                              obtain ⟨ad144, e144, hx144_0⟩ := Kd.at_int HR0.out (ji51) p144 q144
                                              have hw144_0 := hx144_0
                                              cases e144
                                              replace hx144_0 := (HB.out.cell (World.block_lt_of_cell? w _ hx144_0)).trans hx144_0
                                              replace p144 := eq_true p144
                                              replace q144 := eq_true q144
                                              have p67 : 0 ≤ (x9_2 : Int) := of_decide_eq_true (by first | (with_reducible assumption) | assumption)
                                              have q67 : (x9_2 : Int) < ((x8_2.length : Int) : Int) := of_decide_eq_true (by first | (with_reducible assumption) | assumption)
                                              obtain ⟨go67, co67, eo67, gb67, gl67, cl67, HG67⟩ := Kd.R_form HO_8.out (by omega)
                                              (first | cases eo67 | (injection eo67 with ea_ en_ ec_; (first | subst ea_ | (injection ea_ with ea_; subst ea_)); subst ec_; clear en_))
                                              have GB67 := Aside0.mk gb67
                                              have GG67 := Aside0.mk HG67
                                              clear gb67 gl67 HG67
                                              obtain ⟨hx67_0, hf67_0⟩ := Kd.R_celln false HO_8.out (x9_2 : Int) p67 q67
                                              replace p67 := eq_true p67
                                              replace q67 := eq_true q67
                                              have HP71 := Kd.R_putn HO_8.out (x9_2 : Int) (((rd_T56 l1 x18_1).f2) == (rd l0 (ji51)))
                                              rw [← Ny145.out] at HP71
                                              have HQ71 := Aside0.mk HP71
                                              clear HP71
                                              refine start_ (n := 16) (S := fun w' => w'.cell? ⟨gb133, 0, none⟩ = some (.bool ((rd_T56 l1 x18_1).f0)) ∧ w'.cell? ⟨gb133, 1, none⟩ = some (.bool ((rd_T56 l1 x18_1).f1)) ∧ w'.cell? ⟨gb133, 2, none⟩ = some (.int .i64 ((rd_T56 l1 x18_1).f2)) ∧ w'.cell? (ad144.add ((ji51)).toNat) = some (.int .i64 (rd l0 (ji51)))) (ds := [15]) #[false, false, false, false, false, false, false, false, false, false, false, false, false, false, false, false] (by kernel_rfl) rfl rfl ⟨(blk_cell BK133.out 0).trans rfl, (blk_cell BK133.out 1).trans rfl, (blk_cell BK133.out 2).trans rfl, ((HB.out.cell (World.block_lt_of_cell? w _ hw144_0)).trans hw144_0)⟩ (fun hHeld => ?_); refine with_tabW spec_Fits.tab13 spec_Fits.bits13 (fun HT_ HW_ => ?_)
                                              generalize wr.drew = w70 at HO_5 HO_8 BK133 HB GG67 HQ71 hf67_0 hx144_0 hx67_0 hHeld ⊢
                                              refine pure_ (i := 0) (N := some 63) (v := ?_) (a' := ?_) #[true, false, false, false, false, false, false, false, false, false, false, false, false, false, false, false] rfl rfl (any_of HT_.out (by kernel_rfl)) (fun _ _ _ h => h) (Or.inl ⟨by rfl, ?_⟩) ?_ ?_
                                              rotate_left
                                              · intro w'
                                                go_simp
                                                with_reducible rfl
                                              rotate_left
                                              · simp only [Act.put, List.setIfInBounds_toArray, List.set_cons_zero, List.set_cons_succ, i64_w, i32_w]
                                                rfl
                                              refine pure_ (i := 1) (N := some 64) (v := ?_) (a' := ?_) #[true, true, false, false, false, false, false, false, false, false, false, false, false, false, false, false] rfl rfl (any_of HT_.out (by kernel_rfl)) (fun _ _ _ h => h) (Or.inl ⟨by rfl, ?_⟩) ?_ ?_
                                              rotate_left
                                              · intro w'
                                                go_simp
                                                with_reducible rfl
                                              rotate_left
                                              · simp only [Act.put, List.setIfInBounds_toArray, List.set_cons_zero, List.set_cons_succ, i64_w, i32_w]
                                                rfl
                                              refine pure_ (i := 2) (N := some 65) (v := ?_) (a' := ?_) #[true, true, true, false, false, false, false, false, false, false, false, false, false, false, false, false] rfl rfl (any_of HT_.out (by kernel_rfl)) (fun _ _ _ h => h) (Or.inl ⟨by rfl, ?_⟩) ?_ ?_
                                              rotate_left
                                              · intro w'
                                                go_simp
                                                with_reducible rfl
                                              rotate_left
                                              · simp only [Act.put, List.setIfInBounds_toArray, List.set_cons_zero, List.set_cons_succ, i64_w, i32_w]
                                                rfl
                                              refine take_ (i := 3) (N := some 66) (v := ?_) (a' := ?_) #[true, true, true, true, false, false, false, false, false, false, false, false, false, false, false, false] rfl rfl (take_ofW HT_.out HW_.out (by kernel_rfl)) (fun _ _ _ h => h) (Or.inl ⟨by rfl, ?_⟩) hHeld ?_ ?_
                                              rotate_left
                                              · rintro w' ⟨s0, s1, s2, s3⟩
                                                go_simp
                                                with_reducible rfl
                                              rotate_left
                                              · simp only [Act.put, List.setIfInBounds_toArray, List.set_cons_zero, List.set_cons_succ, i64_w, i32_w]
                                                rfl
                                              refine pure_ (i := 4) (N := some 67) (v := ?_) (a' := ?_) #[true, true, true, true, true, false, false, false, false, false, false, false, false, false, false, false] rfl rfl (any_of HT_.out (by kernel_rfl)) (fun _ _ _ h => h) (Or.inl ⟨by rfl, ?_⟩) ?_ ?_
                                              rotate_left
                                              · intro w'
                                                go_simp
                                                with_reducible rfl
                                              rotate_left
                                              · simp only [Act.put, List.setIfInBounds_toArray, List.set_cons_zero, List.set_cons_succ, i64_w, i32_w]
                                                rfl
                                              refine pure_ (i := 5) (N := some 68) (v := ?_) (a' := ?_) #[true, true, true, true, true, true, false, false, false, false, false, false, false, false, false, false] rfl rfl (any_of HT_.out (by kernel_rfl)) (fun _ _ _ h => h) (Or.inl ⟨by rfl, ?_⟩) ?_ ?_
                                              rotate_left
                                              · intro w'
                                                go_simp
                                                with_reducible rfl
                                              rotate_left
                                              · simp only [Act.put, List.setIfInBounds_toArray, List.set_cons_zero, List.set_cons_succ, i64_w, i32_w]
                                                rfl
                                              refine pure_ (i := 7) (N := some 70) (v := ?_) (a' := ?_) #[true, true, true, true, true, true, false, true, false, false, false, false, false, false, false, false] rfl rfl (any_of HT_.out (by kernel_rfl)) (fun _ _ _ h => h) (Or.inl ⟨by rfl, ?_⟩) ?_ ?_
                                              rotate_left
                                              · intro w'
                                                go_simp
                                                with_reducible rfl
                                              rotate_left
                                              · simp only [Act.put, List.setIfInBounds_toArray, List.set_cons_zero, List.set_cons_succ, i64_w, i32_w]
                                                rfl
                                              refine pure_ (i := 8) (N := some 71) (v := ?_) (a' := ?_) #[true, true, true, true, true, true, false, true, true, false, false, false, false, false, false, false] rfl rfl (any_of HT_.out (by kernel_rfl)) (fun _ _ _ h => h) (Or.inl ⟨by rfl, ?_⟩) ?_ ?_
                                              rotate_left
                                              · intro w'
                                                go_simp
                                                with_reducible rfl
                                              rotate_left
                                              · simp only [Act.put, List.setIfInBounds_toArray, List.set_cons_zero, List.set_cons_succ, i64_w, i32_w]
                                                rfl
                                              refine pure_ (i := 9) (N := some 72) (v := ?_) (a' := ?_) #[true, true, true, true, true, true, false, true, true, true, false, false, false, false, false, false] rfl rfl (any_of HT_.out (by kernel_rfl)) (fun _ _ _ h => h) (Or.inl ⟨by rfl, ?_⟩) ?_ ?_
                                              rotate_left
                                              · intro w'
                                                go_simp
                                                with_reducible rfl
                                              rotate_left
                                              · simp only [Act.put, List.setIfInBounds_toArray, List.set_cons_zero, List.set_cons_succ, i64_w, i32_w]
                                                rfl
                                              refine pure_ (i := 10) (N := some 73) (v := ?_) (a' := ?_) #[true, true, true, true, true, true, false, true, true, true, true, false, false, false, false, false] rfl rfl (any_of HT_.out (by kernel_rfl)) (fun _ _ _ h => h) (Or.inl ⟨by rfl, ?_⟩) ?_ ?_
                                              rotate_left
                                              · intro w'
                                                go_simp
                                                with_reducible rfl
                                              rotate_left
                                              · simp only [Act.put, List.setIfInBounds_toArray, List.set_cons_zero, List.set_cons_succ, i64_w, i32_w]
                                                rfl
                                              refine take_ (i := 6) (N := some 69) (v := ?_) (a' := ?_) #[true, true, true, true, true, true, true, true, true, true, true, false, false, false, false, false] rfl rfl (take_ofW HT_.out HW_.out (by kernel_rfl)) (fun _ _ _ h => h) (Or.inl ⟨by rfl, ?_⟩) hHeld ?_ ?_
                                              rotate_left
                                              · rintro w' ⟨s0, s1, s2, s3⟩
                                                go_simp
                                                with_reducible rfl
                                              rotate_left
                                              · simp only [Act.put, List.setIfInBounds_toArray, List.set_cons_zero, List.set_cons_succ, i64_w, i32_w]
                                                rfl
                                              refine take_ (i := 11) (N := some 74) (v := ?_) (a' := ?_) #[true, true, true, true, true, true, true, true, true, true, true, true, false, false, false, false] rfl rfl (take_ofW HT_.out HW_.out (by kernel_rfl)) (fun _ _ _ h => h) (Or.inl ⟨by rfl, ?_⟩) hHeld ?_ ?_
                                              rotate_left
                                              · rintro w' ⟨s0, s1, s2, s3⟩
                                                go_simp
                                                with_reducible rfl
                                              rotate_left
                                              · simp only [Act.put, List.setIfInBounds_toArray, List.set_cons_zero, List.set_cons_succ, i64_w, i32_w]
                                                rfl
                                              refine pure_ (i := 12) (N := some 75) (v := ?_) (a' := ?_) #[true, true, true, true, true, true, true, true, true, true, true, true, true, false, false, false] rfl rfl (any_of HT_.out (by kernel_rfl)) (fun _ _ _ h => h) (Or.inl ⟨by rfl, ?_⟩) ?_ ?_
                                              rotate_left
                                              · intro w'
                                                go_simp
                                                with_reducible rfl
                                              rotate_left
                                              · simp only [Act.put, List.setIfInBounds_toArray, List.set_cons_zero, List.set_cons_succ, i64_w, i32_w]
                                                rfl
                                              refine pure_ (i := 13) (N := some 76) (v := ?_) (a' := ?_) #[true, true, true, true, true, true, true, true, true, true, true, true, true, true, false, false] rfl rfl (any_of HT_.out (by kernel_rfl)) (fun _ _ _ h => h) (Or.inl ⟨by rfl, ?_⟩) ?_ ?_
                                              rotate_left
                                              · intro w'
                                                go_simp
                                                with_reducible rfl
                                              rotate_left
                                              · simp only [Act.put, List.setIfInBounds_toArray, List.set_cons_zero, List.set_cons_succ, i64_w, i32_w]
                                                rfl
                                              refine pure_ (i := 14) (N := some 77) (v := ?_) (a' := ?_) #[true, true, true, true, true, true, true, true, true, true, true, true, true, true, true, false] rfl rfl (any_of HT_.out (by kernel_rfl)) (fun _ _ _ h => h) (Or.inl ⟨by rfl, ?_⟩) ?_ ?_
                                              rotate_left
                                              · intro w'
                                                go_simp
                                                with_reducible rfl
                                              rotate_left
                                              · simp only [Act.put, List.setIfInBounds_toArray, List.set_cons_zero, List.set_cons_succ, i64_w, i32_w]
                                                rfl
                                              refine last_ (i := 15) (N := none) #[true, true, true, true, true, true, true, true, true, true, true, true, true, true, true, true] rfl rfl (one_of HT_.out (by kernel_rfl)) (by decide) (fun K hK => ?_)
                                              refine skip_ (w1 := ?_) (by rfl) rfl ?_ ?_
                                              rotate_left
                                              · go_simp
                                                rfl
                                              refine hK.out _ _ ?_
                                              clear hK K
                                              refine done_ (done_of HT_.out (by kernel_rfl)) ?_
                                              try go_wp2
                                              go_roundg k2
                                              case measure => have := HK1.out; have := HK2.out; omega
                                              case rel => exact ⟨(y145), (wrap64 (x9_2 + 1)), (by first | rfl | (simp; done) | (simp [*]; done)), H', ⟨by have := HK1.out; have := HK2.out; omega⟩, ⟨by (with_reducible repeat (first | apply Kd.R_alloc | apply Kd.R_drewN | apply Kd.R_drew)); exact Kd.R_mono (Kd.R_far (p := ⟨go67, (x9_2 : Int).toNat, none⟩) (Kd.R_mono HO_5.out (fun k_ hk => (⟨hk, fun e_ => hk (by rw [e_]; rfl)⟩ : _ ∧ k_ ≠ go67))) (fun _ hk => hk.2) (.bool (((rd_T56 l1 x18_1).f2) == (rd l0 (ji51))))) (fun _ hk => hk.1)⟩, ⟨by (with_reducible repeat (first | apply Kd.R_alloc | apply Kd.R_drewN | apply Kd.R_drew)); exact HQ71.out⟩, ⟨by (with_reducible repeat (first | refine blk_drewN ?_ _ | refine blk_drew ?_ | refine blk_alloc ?_ _)); refine blk_far ?_ (by have h_ := Kd.R_ne HO_8.out BK133.out (by decide); intro e_; exact h_ (by rw [e_]; rfl)) _; (with_reducible repeat (first | refine blk_drewN ?_ _ | refine blk_drew ?_ | refine blk_alloc ?_ _)); exact BK133.out⟩, ⟨by repeat (first | (with_reducible first | exact HB.out | apply below_alloc | apply pw_below_drewN | apply below_drew1 | refine below_set ?_ GB67.out | refine below_set ?_ GE133.out) | exact HB.out)⟩⟩
                                            · rw [if_neg c66] at H
                                              exact absurd H (by simp)
                                          · rw [if_neg c65] at H
                                            exact absurd H (by simp)
                                        · rw [if_neg c64] at H
                                          exact absurd H (by simp)
                                    · replace c55 := Bool.eq_false_iff.mpr c55
                                      subst c55
                                      have H1 : (spec_Fits.l1 k2 l0 x5_1 x8_2 (wrap64 (x9_2 + 1)) l1 (l1.length : Int) x18_1 ((rd_T56 l1 x18_1).f0) ((rd_T56 l1 x18_1).f1) ((rd_T56 l1 x18_1).f2)) = some r := by rw [if_neg (show ¬ (false = true) by decide)] at H; exact H
                                      clear H
                                      have H := H1
                                      clear H1
                                      have H' := Aside0.mk H
                                      clear H
                                      have hcz72_0 : wr.cell? ⟨gb133, 0, none⟩ = some (.bool ((rd_T56 l1 x18_1).f0)) := (blk_cell BK133.out 0).trans rfl
                                      have hcz72_1 : wr.cell? ⟨gb133, 1, none⟩ = some (.bool ((rd_T56 l1 x18_1).f1)) := (blk_cell BK133.out 1).trans rfl
                                      have hcz72_2 : wr.cell? ⟨gb133, 2, none⟩ = some (.int .i64 ((rd_T56 l1 x18_1).f2)) := (blk_cell BK133.out 2).trans rfl
                                      have hfz72_0 := blk_frozen BK133.out 0
                                      have hfz72_1 := blk_frozen BK133.out 1
                                      have hfz72_2 := blk_frozen BK133.out 2
                                      obtain ⟨Ao73, co73, eo73⟩ := Kd.R_slice HO_5.out
                                      subst eo73
                                      have p142 : 0 ≤ ((ji51) : Int) := of_decide_eq_true (by first | (with_reducible assumption) | assumption)
                                      have q142 : (ji51) < (x5_1.length : Int) := of_decide_eq_true (by first | (with_reducible assumption) | assumption)
                                      obtain ⟨ad142, e142, hx142_0⟩ := Kd.at_bool (Kd.R_reads' HO_5.out).2.2 (ji51) p142 q142
                                      (try rw [← Nbq54.out] at hx142_0)
                                      cases e142
                                      replace p142 := eq_true p142
                                      replace q142 := eq_true q142
                                      go_wp2
                                      go_roundg k2
                                      case measure => have := HK1.out; have := HK2.out; omega
                                      case rel => exact ⟨(x8_2), (wrap64 (x9_2 + 1)), (by first | rfl | (simp; done) | (simp [*]; done)), H', ⟨by have := HK1.out; have := HK2.out; omega⟩, ⟨by (with_reducible repeat (first | apply Kd.R_alloc | apply Kd.R_drewN | apply Kd.R_drew)); exact HO_5.out⟩, ⟨by (with_reducible repeat (first | apply Kd.R_alloc | apply Kd.R_drewN | apply Kd.R_drew)); exact HO_8.out⟩, ⟨by (with_reducible repeat (first | refine blk_drewN ?_ _ | refine blk_drew ?_ | refine blk_alloc ?_ _)); exact BK133.out⟩, ⟨by repeat (first | (with_reducible first | exact HB.out | apply below_alloc | apply pw_below_drewN | apply below_drew1 | refine below_set ?_ GE133.out) | exact HB.out)⟩⟩
                                  · rw [if_neg c53] at H
                                    exact absurd H (by simp)
                                · rw [if_neg c52] at H
                                  exact absurd H (by simp)
                              · rw [if_neg c50] at H
                                have c50b0 : decide (0 < x9_2) = false := decide_eq_false c50
                                clear c50
                                have H' := Aside0.mk H
                                clear H
                                have hcz74_0 : wr.cell? ⟨gb133, 0, none⟩ = some (.bool ((rd_T56 l1 x18_1).f0)) := (blk_cell BK133.out 0).trans rfl
                                have hcz74_1 : wr.cell? ⟨gb133, 1, none⟩ = some (.bool ((rd_T56 l1 x18_1).f1)) := (blk_cell BK133.out 1).trans rfl
                                have hcz74_2 : wr.cell? ⟨gb133, 2, none⟩ = some (.int .i64 ((rd_T56 l1 x18_1).f2)) := (blk_cell BK133.out 2).trans rfl
                                have hfz74_0 := blk_frozen BK133.out 0
                                have hfz74_1 := blk_frozen BK133.out 1
                                have hfz74_2 := blk_frozen BK133.out 2
                                go_wp2
                                go_roundg k2
                                case measure => have := HK1.out; have := HK2.out; omega
                                case rel => exact ⟨(x8_2), (wrap64 (x9_2 + 1)), (by first | rfl | (simp; done) | (simp [*]; done)), H', ⟨by have := HK1.out; have := HK2.out; omega⟩, ⟨by (with_reducible repeat (first | apply Kd.R_alloc | apply Kd.R_drewN | apply Kd.R_drew)); exact HO_5.out⟩, ⟨by (with_reducible repeat (first | apply Kd.R_alloc | apply Kd.R_drewN | apply Kd.R_drew)); exact HO_8.out⟩, ⟨by (with_reducible repeat (first | refine blk_drewN ?_ _ | refine blk_drew ?_ | refine blk_alloc ?_ _)); exact BK133.out⟩, ⟨by repeat (first | (with_reducible first | exact HB.out | apply below_alloc | apply pw_below_drewN | apply below_drew1 | refine below_set ?_ GE133.out) | exact HB.out)⟩⟩
                          · rw [if_neg c21] at H
                            have c21b0 : decide (x9_2 ≤ (l0.length : Int)) = false := decide_eq_false c21
                            clear c21
                            have H' := Aside0.mk H
                            clear H
                            go_wp2
                            go_roundg k2
                            case measure => have := HK1.out; have := HK2.out; omega
                            case rel => exact ⟨(x8_2), (wrap64 (x18_1 + 1)), (by first | rfl | (simp; done) | (simp [*]; done)), H', ⟨by have := HK1.out; have := HK2.out; omega⟩, ⟨by (with_reducible repeat (first | apply Kd.R_alloc | apply Kd.R_drewN | apply Kd.R_drew)); exact Kd.R_mono HO_8.out (fun _ hk => trivial)⟩, ⟨by repeat (first | (with_reducible first | exact HB.out | apply below_alloc | apply pw_below_drewN | apply below_drew1 | refine below_set ?_ GE133.out) | exact HB.out)⟩⟩
                    · rw [if_neg c16] at H
                      exact absurd H (by simp)
                  · rw [if_neg c15] at H
                    exact absurd H (by simp)
                · rw [if_neg c14] at H
                  exact absurd H (by simp)
              · rw [if_neg c13] at H
                exact absurd H (by simp)
            · rw [if_neg c12] at H
              have c12b0 : decide (x18_1 < (l1.length : Int)) = false := decide_eq_false c12
              clear c12
              by_cases c75 : 0 ≤ (l0.length : Int)
              · rw [if_pos c75] at H
                have c75b0 : decide (0 ≤ (l0.length : Int)) = true := decide_eq_true c75
                have c75b1 : decide (0 ≤ l0.length) = true := decide_eq_true (by omega)
                clear c75
                by_cases c76 : (l0.length : Int) < (x5_1.length : Int)
                · rw [if_pos c76] at H
                  have c76b0 : decide ((l0.length : Int) < (x5_1.length : Int)) = true := decide_eq_true c76
                  have c76b1 : decide (l0.length < x5_1.length) = true := decide_eq_true (Int.ofNat_lt.mp c76)
                  clear c76
                  obtain rfl := Option.some.inj H
                  obtain ⟨Ao77, co77, eo77⟩ := Kd.R_slice HO_5.out
                  subst eo77
                  have p131 : 0 ≤ ((l0.length : Int) : Int) := of_decide_eq_true (by first | (with_reducible assumption) | assumption)
                  have q131 : (l0.length : Int) < (x5_1.length : Int) := of_decide_eq_true (by first | (with_reducible assumption) | assumption)
                  obtain ⟨ad131, e131, hx131_0⟩ := Kd.at_bool (Kd.R_reads' HO_5.out).2.2 (l0.length : Int) p131 q131
                  cases e131
                  (try simp only [Go.IntWalk.toNatUp] at hx131_0)
                  replace p131 := eq_true p131
                  replace q131 := eq_true q131
                  go_wp2
                  go_ret
                  exact ⟨by first | rfl | (simp [errW_none, errW_some] <;> rfl) | (simp only [← hji3]; first | rfl | (simp [errW_none, errW_some] <;> rfl)) | (simp [*, errW_none, errW_some] <;> rfl), by repeat (first | (with_reducible first | exact HB.out | apply below_alloc | apply pw_below_drewN | apply below_drew1) | exact HB.out)⟩
                · rw [if_neg c76] at H
                  exact absurd H (by simp)
              · rw [if_neg c75] at H
                exact absurd H (by simp)
      · rw [if_neg c6] at H
        exact absurd H (by simp)
    · rw [if_neg c5] at H
      exact absurd H (by simp)
  · rw [if_neg c4] at H
    exact absurd H (by simp)


/-! ### spec_Matches: function 8 -/
def spec_Matches.f (k : Nat) (a0 : ByteArray) (a1 : ByteArray) : Option (Bool × Bool) := (spec_Characters.f k a0).bind fun bt146 => ((spec_Globs.f k a1).bind fun bt150 => (if bt146.2 = true then (if bt150.2 = true then ((spec_Fits.f k bt146.1 bt150.1).bind fun t154 => (some (t154, true))) else (some (false, false))) else (some (false, false))))
theorem spec_Matches.mono : ∀ a0 a1 k, LeO (spec_Matches.f k a0 a1) (spec_Matches.f (k + 1) a0 a1) := by
  intro a0 a1 k
  unfold spec_Matches.f
  repeat' first
      | (with_reducible exact spec_Characters.mono _ _)
      | (with_reducible exact spec_Fits.mono _ _ _)
      | (with_reducible exact spec_Globs.mono _ _)
      | (with_reducible exact LeO.refl _)
      | (with_reducible exact LeO.none _)
      | (with_reducible refine LeO.ite ?_ ?_)
      | (with_reducible refine LeO.bind ?_ (fun _ => ?_))
      | exact spec_Characters.mono _ _
      | exact spec_Fits.mono _ _ _
      | exact spec_Globs.mono _ _
      | exact LeO.none _
      | refine LeO.ite ?_ ?_
      | refine LeO.bind ?_ (fun _ => ?_)
set_option maxHeartbeats 8000000 in
set_option maxRecDepth 100000 in
theorem spec_Matches.calls (k : Nat) (a0 : ByteArray) (a1 : ByteArray) (r1 : Bool) (r2 : Bool) (w : World) (h : spec_Matches.f k a0 a1 = some (r1, r2)) :
    Calls Tryz.prog 8 #[.string a0, .string a1] w fun e w' => e = .returned (.tuple #[.bool r1, .bool r2]) ∧ Below w.heap.size w w' := by
  have HB := Aside0.mk (Below.refl w.heap.size w)
  have H : ((spec_Characters.f k a0).bind fun bt146 => ((spec_Globs.f k a1).bind fun bt150 => (if bt146.2 = true then (if bt150.2 = true then ((spec_Fits.f k bt146.1 bt150.1).bind fun t154 => (some (t154, true))) else (some (false, false))) else (some (false, false))))) = some (r1, r2) := h
  clear h
  replace H := Option.bind_eq_some_iff.mp H
  obtain ⟨⟨t146, t147⟩, A30, H⟩ := H
  replace H : ((spec_Globs.f k a1).bind fun bt150 => (if t147 = true then (if bt150.2 = true then ((spec_Fits.f k t146 bt150.1).bind fun t154 => (some (t154, true))) else (some (false, false))) else (some (false, false)))) = some (r1, r2) := H
  have A3 := Aside0.mk A30
  clear A30
  replace H := Option.bind_eq_some_iff.mp H
  obtain ⟨⟨t150, t151⟩, A40, H⟩ := H
  replace H : (if t147 = true then (if t151 = true then ((spec_Fits.f k t146 t150).bind fun t154 => (some (t154, true))) else (some (false, false))) else (some (false, false))) = some (r1, r2) := H
  have A4 := Aside0.mk A40
  clear A40
  by_cases c5 : t147 = true
  · subst c5
    have H1 : (if t151 = true then ((spec_Fits.f k t146 t150).bind fun t154 => (some (t154, true))) else (some (false, false))) = some (r1, r2) := by rw [if_pos rfl] at H; exact H
    clear H
    have H := H1
    clear H1
    by_cases c6 : t151 = true
    · subst c6
      have H1 : ((spec_Fits.f k t146 t150).bind fun t154 => (some (t154, true))) = some (r1, r2) := by rw [if_pos rfl] at H; exact H
      clear H
      have H := H1
      clear H1
      replace H := Option.bind_eq_some_iff.mp H
      obtain ⟨t154, A70, H⟩ := H
      replace H : (some (t154, true)) = some (r1, r2) := H
      have A7 := Aside0.mk A70
      clear A70
      simp only [Option.some.injEq, Prod.mk.injEq] at H
      obtain ⟨rfl, rfl⟩ := H
      go_enter Tryz.func8, Tryz.ntmps8
      go_wp2_with (first | ((with_reducible refine gate_callee (f := 12) rfl ?_); refine goesL_ (some 12) rfl rfl Tryz.func12 (by kernel_rfl) rfl #[.string a0] rfl (by (try simp only [List.map_toArray, List.map_cons, List.map_nil]); first | done | rfl | (simp only [List.length_drop, List.length_take]; rfl)) ?_; (with_reducible refine (spec_Characters.calls k a0 t146 true _ A3.out).mono ?_); rintro e w8 ⟨v148, rfl, ho0, hb⟩; refine ⟨_, rfl, ?_⟩; have n0_ := Aside0.mk (Kd.R_lower ho0 (below_size (by repeat (first | (with_reducible first | exact HB.out | apply below_alloc | apply pw_below_drewN | apply below_drew1) | exact HB.out)))); have n1_ := Aside0.mk (below_step (by repeat (first | (with_reducible first | exact HB.out | apply below_alloc | apply pw_below_drewN | apply below_drew1) | exact HB.out)) hb); clear HB; have HO149 := n0_; have HB := n1_; clear n0_ n1_; (try clear hb); (try clear hb2); (try clear hk); (try clear hi); (try clear ho0)) | ((with_reducible refine gate_callee (f := 13) rfl ?_); refine goesL_ (some 17) rfl rfl Tryz.func13 (by kernel_rfl) rfl #[.string a1] rfl (by (try simp only [List.map_toArray, List.map_cons, List.map_nil]); first | done | rfl | (simp only [List.length_drop, List.length_take]; rfl)) ?_; (with_reducible refine (spec_Globs.calls k a1 t150 true _ A4.out).mono ?_); rintro e w9 ⟨v152, rfl, ho0, hb⟩; refine ⟨_, rfl, ?_⟩; have n0_ := Aside0.mk (Kd.R_below (by (with_reducible repeat (first | apply Kd.R_alloc | apply Kd.R_drewN | apply Kd.R_drew)); exact HO149.out) hb); have n1_ := Aside0.mk (Kd.R_lower ho0 (below_size (by repeat (first | (with_reducible first | exact HB.out | apply below_alloc | apply pw_below_drewN | apply below_drew1) | exact HB.out)))); have n2_ := Aside0.mk (below_step (by repeat (first | (with_reducible first | exact HB.out | apply below_alloc | apply pw_below_drewN | apply below_drew1) | exact HB.out)) hb); clear HO149; clear HB; have HO149 := n0_; have HO153 := n1_; have HB := n2_; clear n0_ n1_ n2_; (try clear hb); (try clear hb2); (try clear hk); (try clear hi); (try clear ho0); obtain ⟨Ao10, co10, eo10⟩ := Kd.R_slice HO149.out; subst eo10; obtain ⟨Ao11, co11, eo11⟩ := Kd.R_slice HO153.out; subst eo11) | ((with_reducible refine gate_callee (f := 14) rfl ?_); refine goesL_ (some 28) rfl rfl Tryz.func14 (by kernel_rfl) rfl #[.slice Ao10 t146.length co10, .slice Ao11 t150.length co11] rfl (by (try simp only [List.map_toArray, List.map_cons, List.map_nil]); first | done | rfl | (simp only [List.length_drop, List.length_take]; rfl)) ?_; (with_reducible refine (spec_Fits.calls k _ _ t146 _ _ t150 t154 _ ?side1 ?side2 ?side3 ?side4 A7.out).mono ?_); (case side1 => repeat (first | exact (Kd.R_reads' HO149.out).2.2 | (with_reducible refine Kd.C_alloc ?_ _) | (with_reducible refine Kd.C_drewN ?_ _) | (with_reducible refine Kd.C_drew ?_))); (case side2 => exact (Kd.R_reads' HO149.out).2.1); (case side3 => repeat (first | exact (Kd.R_reads' HO153.out).2.2 | (with_reducible refine Kd.C_alloc ?_ _) | (with_reducible refine Kd.C_drewN ?_ _) | (with_reducible refine Kd.C_drew ?_))); (case side4 => exact (Kd.R_reads' HO153.out).2.1); rintro e w12 ⟨rfl, hb⟩; refine ⟨_, rfl, ?_⟩; have n0_ := Aside0.mk (Kd.R_below (by (with_reducible repeat (first | apply Kd.R_alloc | apply Kd.R_drewN | apply Kd.R_drew)); exact HO149.out) hb); have n1_ := Aside0.mk (Kd.R_below (by (with_reducible repeat (first | apply Kd.R_alloc | apply Kd.R_drewN | apply Kd.R_drew)); exact HO153.out) hb); have n2_ := Aside0.mk (below_step (by repeat (first | (with_reducible first | exact HB.out | apply below_alloc | apply pw_below_drewN | apply below_drew1) | exact HB.out)) hb); clear HO149; clear HO153; clear HB; have HO149 := n0_; have HO153 := n1_; have HB := n2_; clear n0_ n1_ n2_; (try clear hb); (try clear hb2); (try clear hk); (try clear hi)))
      go_ret2
      exact ⟨by first | rfl | (simp [errW_none, errW_some] <;> rfl) | (simp [*, errW_none, errW_some] <;> rfl), by repeat (first | (with_reducible first | exact HB.out | apply below_alloc | apply pw_below_drewN | apply below_drew1) | exact HB.out)⟩
    · replace c6 := Bool.eq_false_iff.mpr c6
      subst c6
      have H1 : (some (false, false)) = some (r1, r2) := by rw [if_neg (show ¬ (false = true) by decide)] at H; exact H
      clear H
      have H := H1
      clear H1
      simp only [Option.some.injEq, Prod.mk.injEq] at H
      obtain ⟨rfl, rfl⟩ := H
      go_enter Tryz.func8, Tryz.ntmps8
      go_wp2_with (first | ((with_reducible refine gate_callee (f := 12) rfl ?_); refine goesL_ (some 12) rfl rfl Tryz.func12 (by kernel_rfl) rfl #[.string a0] rfl (by (try simp only [List.map_toArray, List.map_cons, List.map_nil]); first | done | rfl | (simp only [List.length_drop, List.length_take]; rfl)) ?_; (with_reducible refine (spec_Characters.calls k a0 t146 true _ A3.out).mono ?_); rintro e w13 ⟨v148, rfl, ho0, hb⟩; refine ⟨_, rfl, ?_⟩; have n0_ := Aside0.mk (Kd.R_lower ho0 (below_size (by repeat (first | (with_reducible first | exact HB.out | apply below_alloc | apply pw_below_drewN | apply below_drew1) | exact HB.out)))); have n1_ := Aside0.mk (below_step (by repeat (first | (with_reducible first | exact HB.out | apply below_alloc | apply pw_below_drewN | apply below_drew1) | exact HB.out)) hb); clear HB; have HO149 := n0_; have HB := n1_; clear n0_ n1_; (try clear hb); (try clear hb2); (try clear hk); (try clear hi); (try clear ho0)) | ((with_reducible refine gate_callee (f := 13) rfl ?_); refine goesL_ (some 17) rfl rfl Tryz.func13 (by kernel_rfl) rfl #[.string a1] rfl (by (try simp only [List.map_toArray, List.map_cons, List.map_nil]); first | done | rfl | (simp only [List.length_drop, List.length_take]; rfl)) ?_; (with_reducible refine (spec_Globs.calls k a1 t150 false _ A4.out).mono ?_); rintro e w14 ⟨v152, rfl, ho0, hb⟩; refine ⟨_, rfl, ?_⟩; have n0_ := Aside0.mk (Kd.R_below (by (with_reducible repeat (first | apply Kd.R_alloc | apply Kd.R_drewN | apply Kd.R_drew)); exact HO149.out) hb); have n1_ := Aside0.mk (Kd.R_lower ho0 (below_size (by repeat (first | (with_reducible first | exact HB.out | apply below_alloc | apply pw_below_drewN | apply below_drew1) | exact HB.out)))); have n2_ := Aside0.mk (below_step (by repeat (first | (with_reducible first | exact HB.out | apply below_alloc | apply pw_below_drewN | apply below_drew1) | exact HB.out)) hb); clear HO149; clear HB; have HO149 := n0_; have HO153 := n1_; have HB := n2_; clear n0_ n1_ n2_; (try clear hb); (try clear hb2); (try clear hk); (try clear hi); (try clear ho0)))
      go_ret2
      exact ⟨by first | rfl | (simp [errW_none, errW_some] <;> rfl) | (simp [*, errW_none, errW_some] <;> rfl), by repeat (first | (with_reducible first | exact HB.out | apply below_alloc | apply pw_below_drewN | apply below_drew1) | exact HB.out)⟩
  · replace c5 := Bool.eq_false_iff.mpr c5
    subst c5
    have H1 : (some (false, false)) = some (r1, r2) := by rw [if_neg (show ¬ (false = true) by decide)] at H; exact H
    clear H
    have H := H1
    clear H1
    simp only [Option.some.injEq, Prod.mk.injEq] at H
    obtain ⟨rfl, rfl⟩ := H
    go_enter Tryz.func8, Tryz.ntmps8
    go_wp2_with (first | ((with_reducible refine gate_callee (f := 12) rfl ?_); refine goesL_ (some 12) rfl rfl Tryz.func12 (by kernel_rfl) rfl #[.string a0] rfl (by (try simp only [List.map_toArray, List.map_cons, List.map_nil]); first | done | rfl | (simp only [List.length_drop, List.length_take]; rfl)) ?_; (with_reducible refine (spec_Characters.calls k a0 t146 false _ A3.out).mono ?_); rintro e w15 ⟨v148, rfl, ho0, hb⟩; refine ⟨_, rfl, ?_⟩; have n0_ := Aside0.mk (Kd.R_lower ho0 (below_size (by repeat (first | (with_reducible first | exact HB.out | apply below_alloc | apply pw_below_drewN | apply below_drew1) | exact HB.out)))); have n1_ := Aside0.mk (below_step (by repeat (first | (with_reducible first | exact HB.out | apply below_alloc | apply pw_below_drewN | apply below_drew1) | exact HB.out)) hb); clear HB; have HO149 := n0_; have HB := n1_; clear n0_ n1_; (try clear hb); (try clear hb2); (try clear hk); (try clear hi); (try clear ho0)) | ((with_reducible refine gate_callee (f := 13) rfl ?_); refine goesL_ (some 17) rfl rfl Tryz.func13 (by kernel_rfl) rfl #[.string a1] rfl (by (try simp only [List.map_toArray, List.map_cons, List.map_nil]); first | done | rfl | (simp only [List.length_drop, List.length_take]; rfl)) ?_; (with_reducible refine (spec_Globs.calls k a1 t150 t151 _ A4.out).mono ?_); rintro e w16 ⟨v152, rfl, ho0, hb⟩; refine ⟨_, rfl, ?_⟩; have n0_ := Aside0.mk (Kd.R_below (by (with_reducible repeat (first | apply Kd.R_alloc | apply Kd.R_drewN | apply Kd.R_drew)); exact HO149.out) hb); have n1_ := Aside0.mk (Kd.R_lower ho0 (below_size (by repeat (first | (with_reducible first | exact HB.out | apply below_alloc | apply pw_below_drewN | apply below_drew1) | exact HB.out)))); have n2_ := Aside0.mk (below_step (by repeat (first | (with_reducible first | exact HB.out | apply below_alloc | apply pw_below_drewN | apply below_drew1) | exact HB.out)) hb); clear HO149; clear HB; have HO149 := n0_; have HO153 := n1_; have HB := n2_; clear n0_ n1_ n2_; (try clear hb); (try clear hb2); (try clear hk); (try clear hi); (try clear ho0)))
    go_ret2
    exact ⟨by first | rfl | (simp [errW_none, errW_some] <;> rfl) | (simp [*, errW_none, errW_some] <;> rfl), by repeat (first | (with_reducible first | exact HB.out | apply below_alloc | apply pw_below_drewN | apply below_drew1) | exact HB.out)⟩


/-! ### laws_mtTold: function 4 -/
def laws_mtTold.f (k : Nat) (a0 : ByteArray) (a1 : ByteArray) : Option (Bool × Bool) := if (a0.size : Int) > 4096 then (some (false, false)) else (if (a1.size : Int) > 4096 then (some (false, false)) else ((spec_Matches.f k a0 a1).bind fun bt155 => (some (bt155.1, bt155.2))))
theorem laws_mtTold.mono : ∀ a0 a1 k, LeO (laws_mtTold.f k a0 a1) (laws_mtTold.f (k + 1) a0 a1) := by
  intro a0 a1 k
  unfold laws_mtTold.f
  repeat' first
      | (with_reducible exact spec_Matches.mono _ _ _)
      | (with_reducible exact LeO.refl _)
      | (with_reducible exact LeO.none _)
      | (with_reducible refine LeO.ite ?_ ?_)
      | (with_reducible refine LeO.bind ?_ (fun _ => ?_))
      | exact spec_Matches.mono _ _ _
      | exact LeO.none _
      | refine LeO.ite ?_ ?_
      | refine LeO.bind ?_ (fun _ => ?_)
set_option maxHeartbeats 8000000 in
set_option maxRecDepth 100000 in
theorem laws_mtTold.calls (k : Nat) (a0 : ByteArray) (a1 : ByteArray) (r1 : Bool) (r2 : Bool) (w : World) (h : laws_mtTold.f k a0 a1 = some (r1, r2)) :
    Calls Tryz.prog 4 #[.string a0, .string a1] w fun e w' => e = .returned (.tuple #[.bool r1, .bool r2]) ∧ Below w.heap.size w w' := by
  have HB := Aside0.mk (Below.refl w.heap.size w)
  have H : (if (a0.size : Int) > 4096 then (some (false, false)) else (if (a1.size : Int) > 4096 then (some (false, false)) else ((spec_Matches.f k a0 a1).bind fun bt155 => (some (bt155.1, bt155.2))))) = some (r1, r2) := h
  clear h
  by_cases c3 : (a0.size : Int) > 4096
  · rw [if_pos c3] at H
    have c3b0 : decide (4096 < (a0.size : Int)) = true := decide_eq_true c3
    have c3b1 : decide (4096 < a0.size) = true := decide_eq_true (by omega)
    clear c3
    simp only [Option.some.injEq, Prod.mk.injEq] at H
    obtain ⟨rfl, rfl⟩ := H
    go_enter Tryz.func4, Tryz.ntmps4
    go_wp2
    go_ret2
    exact ⟨by first | rfl | (simp [errW_none, errW_some] <;> rfl) | (simp [*, errW_none, errW_some] <;> rfl), by repeat (first | (with_reducible first | exact HB.out | apply below_alloc | apply pw_below_drewN | apply below_drew1) | exact HB.out)⟩
  · rw [if_neg c3] at H
    have c3b0 : decide (4096 < (a0.size : Int)) = false := decide_eq_false c3
    have c3b1 : decide (4096 < a0.size) = false := decide_eq_false (by omega)
    clear c3
    by_cases c4 : (a1.size : Int) > 4096
    · rw [if_pos c4] at H
      have c4b0 : decide (4096 < (a1.size : Int)) = true := decide_eq_true c4
      have c4b1 : decide (4096 < a1.size) = true := decide_eq_true (by omega)
      clear c4
      simp only [Option.some.injEq, Prod.mk.injEq] at H
      obtain ⟨rfl, rfl⟩ := H
      go_enter Tryz.func4, Tryz.ntmps4
      go_wp2
      go_ret2
      exact ⟨by first | rfl | (simp [errW_none, errW_some] <;> rfl) | (simp [*, errW_none, errW_some] <;> rfl), by repeat (first | (with_reducible first | exact HB.out | apply below_alloc | apply pw_below_drewN | apply below_drew1) | exact HB.out)⟩
    · rw [if_neg c4] at H
      have c4b0 : decide (4096 < (a1.size : Int)) = false := decide_eq_false c4
      have c4b1 : decide (4096 < a1.size) = false := decide_eq_false (by omega)
      clear c4
      replace H := Option.bind_eq_some_iff.mp H
      obtain ⟨⟨t155, t156⟩, A50, H⟩ := H
      replace H : (some (t155, t156)) = some (r1, r2) := H
      have A5 := Aside0.mk A50
      clear A50
      simp only [Option.some.injEq, Prod.mk.injEq] at H
      obtain ⟨rfl, rfl⟩ := H
      go_enter Tryz.func4, Tryz.ntmps4
      go_wp2_with (first | ((with_reducible refine gate_callee (f := 8) rfl ?_); refine goesL_ (some 16) rfl rfl Tryz.func8 (by kernel_rfl) rfl #[.string a0, .string a1] rfl (by (try simp only [List.map_toArray, List.map_cons, List.map_nil]); first | done | rfl | (simp only [List.length_drop, List.length_take]; rfl)) ?_; (with_reducible refine (spec_Matches.calls k a0 a1 t155 t156 _ A5.out).mono ?_); rintro e w6 ⟨rfl, hb⟩; refine ⟨_, rfl, ?_⟩; have n0_ := Aside0.mk (below_step (by repeat (first | (with_reducible first | exact HB.out | apply below_alloc | apply pw_below_drewN | apply below_drew1) | exact HB.out)) hb); clear HB; have HB := n0_; clear n0_; (try clear hb); (try clear hb2); (try clear hk); (try clear hi)))
      go_ret2
      exact ⟨by first | rfl | (simp [errW_none, errW_some] <;> rfl) | (simp [*, errW_none, errW_some] <;> rfl), by repeat (first | (with_reducible first | exact HB.out | apply below_alloc | apply pw_below_drewN | apply below_drew1) | exact HB.out)⟩


/-! ### spec_Light: function 5 -/
def spec_Light.l0 : Nat → ByteArray → Int → Int → Option (Bool)
  | 0, _, _, _ => none
  | k + 1, x0, x3, x4 => if x4 < (x0.size : Int) then (if 0 ≤ x4 then (if (bt x0 x4) = 42 then (spec_Light.l0 k x0 (wrap64 (x3 + 1)) (wrap64 (x4 + 1))) else (spec_Light.l0 k x0 x3 (wrap64 (x4 + 1)))) else (none)) else (some (decide (x3 ≤ 2)))
def spec_Light.f (k : Nat) (a0 : ByteArray) : Option (Bool) := spec_Light.l0 k a0 0 0
theorem spec_Light.mono_l : ∀ k, (∀ y0 y1 y2, LeO (spec_Light.l0 k y0 y1 y2) (spec_Light.l0 (k + 1) y0 y1 y2))
  | 0 => fun _ _ _ r h => by simp [spec_Light.l0] at h
  | k + 1 => by
    have ih0 := spec_Light.mono_l k
    · intro y0 y1 y2
      unfold spec_Light.l0
      repeat' first
      | (with_reducible exact ih0 _ _ _)
      | (with_reducible exact LeO.refl _)
      | (with_reducible exact LeO.none _)
      | (with_reducible refine LeO.ite ?_ ?_)
      | (with_reducible refine LeO.bind ?_ (fun _ => ?_))
      | exact ih0 _ _ _
      | exact LeO.none _
      | refine LeO.ite ?_ ?_
      | refine LeO.bind ?_ (fun _ => ?_)
theorem spec_Light.mono : ∀ a0 k, LeO (spec_Light.f k a0) (spec_Light.f (k + 1) a0) := by
  intro a0 k
  have ih0 := spec_Light.mono_l k
  unfold spec_Light.f
  repeat' first
      | (with_reducible exact ih0 _ _ _)
      | (with_reducible exact LeO.refl _)
      | (with_reducible exact LeO.none _)
      | (with_reducible refine LeO.ite ?_ ?_)
      | (with_reducible refine LeO.bind ?_ (fun _ => ?_))
      | exact ih0 _ _ _
      | exact LeO.none _
      | refine LeO.ite ?_ ?_
      | refine LeO.bind ?_ (fun _ => ?_)
set_option maxHeartbeats 8000000 in
set_option maxRecDepth 100000 in
theorem spec_Light.calls (k : Nat) (a0 : ByteArray) (r : Bool) (w : World) (h : spec_Light.f k a0 = some r) :
    Calls Tryz.prog 5 #[.string a0] w fun e w' => e = .returned (.bool r) ∧ Drawn0 w w' := by
  have H : (spec_Light.l0 k a0 0 0) = some r := h
  clear h
  have H' := Aside0.mk H
  clear H
  go_enter Tryz.func5, Tryz.ntmps5
  go_wp2
  (try simp only [Act.put, List.setIfInBounds_toArray, List.set_cons_zero, List.set_cons_succ])
  go_loopg [3, 4] k (fun kq v3 v4 w' => ∃ (x3_1 : Int) (x4_1 : Int), v3 = .int .i64 x3_1 ∧ v4 = .int .i64 x4_1 ∧ Aside0 (spec_Light.l0 kq a0 x3_1 x4_1 = some r) ∧ Aside0 (kq ≤ k) ∧ Drawn0 w w')
  case atStart => exact ⟨(0), (0), (by first | rfl | (simp; done) | (simp [*]; done)), (by first | rfl | (simp; done) | (simp [*]; done)), H', ⟨Nat.le_refl _⟩, by repeat (first | exact Drawn0.refl _ | apply Drawn0.step)⟩
  case round =>
    clear H'
    obtain ⟨x3_1, x4_1, rfl, rfl, HA, HK1, ⟨m1, rfl⟩⟩ := hrel
    cases gk with
    | zero => exact absurd HA.out (by simp [spec_Light.l0])
    | succ k1 =>
      have H := HA.out
      clear HA
      simp only [spec_Light.l0] at H
      by_cases c2 : x4_1 < (a0.size : Int)
      · rw [if_pos c2] at H
        have c2b0 : decide (x4_1 < (a0.size : Int)) = true := decide_eq_true c2
        clear c2
        by_cases c3 : 0 ≤ x4_1
        · rw [if_pos c3] at H
          have c3b0 : decide (0 ≤ x4_1) = true := decide_eq_true c3
          clear c3
          by_cases c5 : (bt a0 x4_1) = 42
          · rw [if_pos c5] at H
            have c5b0 : ((bt a0 x4_1) == 42) = true := beq_iff_eq.mpr c5
            have c5b1 : ((bt a0 x4_1) != 42) = false := bne_eq_false_iff_eq.mpr c5
            clear c5
            have H' := Aside0.mk H
            clear H
            have p4 : 0 ≤ (x4_1 : Int) := of_decide_eq_true (by first | (with_reducible assumption) | assumption)
            have q4 : x4_1 < (a0.size : Int) := of_decide_eq_true (by first | (with_reducible assumption) | assumption)
            have hx4 := bt_at a0 x4_1
            replace p4 := eq_true p4
            replace q4 := eq_true q4
            go_wp2
            go_roundg k1
            case measure => have := HK1.out; omega
            case rel => exact ⟨(wrap64 (x3_1 + 1)), (wrap64 (x4_1 + 1)), (by first | rfl | (simp; done) | (simp [*]; done)), (by first | rfl | (simp; done) | (simp [*]; done)), H', ⟨by have := HK1.out; omega⟩, by repeat (first | exact Drawn0.refl _ | apply Drawn0.step)⟩
          · rw [if_neg c5] at H
            have c5b0 : ((bt a0 x4_1) == 42) = false := beq_eq_false_iff_ne.mpr c5
            have c5b1 : ((bt a0 x4_1) != 42) = true := bne_iff_ne.mpr c5
            have H' := Aside0.mk H
            clear H
            have p4 : 0 ≤ (x4_1 : Int) := of_decide_eq_true (by first | (with_reducible assumption) | assumption)
            have q4 : x4_1 < (a0.size : Int) := of_decide_eq_true (by first | (with_reducible assumption) | assumption)
            have hx4 := bt_at a0 x4_1
            replace p4 := eq_true p4
            replace q4 := eq_true q4
            go_wp2
            go_roundg k1
            case measure => have := HK1.out; omega
            case rel => exact ⟨(x3_1), (wrap64 (x4_1 + 1)), (by first | rfl | (simp; done) | (simp [*]; done)), (by first | rfl | (simp; done) | (simp [*]; done)), H', ⟨by have := HK1.out; omega⟩, by repeat (first | exact Drawn0.refl _ | apply Drawn0.step)⟩
        · rw [if_neg c3] at H
          exact absurd H (by simp)
      · rw [if_neg c2] at H
        have c2b0 : decide (x4_1 < (a0.size : Int)) = false := decide_eq_false c2
        clear c2
        obtain rfl := Option.some.inj H
        go_wp2
        go_ret
        exact ⟨by first | rfl | (simp; done) | (simp [*]; done), by repeat (first | exact Drawn0.refl _ | apply Drawn0.step)⟩


end Go.Proofs.YtkhgbacbnkgafaaGreatDoor.PFnGjMatchesLike
