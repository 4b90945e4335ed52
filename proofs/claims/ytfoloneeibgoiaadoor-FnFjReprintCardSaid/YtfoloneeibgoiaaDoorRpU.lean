-- Written for this claim by this session's own program (wip/xprint).
import Derived.Test.YtfoloneeibgoiaaDoorProg
import Derived.Below
import Derived.Deep.Draws
import Derived.Deep.AppendLies
import Derived.Maps.AppendAt
import Derived.OwnWalk
import Derived.Laws.BytesArg
import Derived.Laws.MakeOwn
import Derived.Laws.OwnMore
import Derived.Deep.OwnRows
import Derived.Tactics
import Derived.Lib.ConvBytes
import Derived.Laws.Slices
import Derived.WalkKit
import Derived.KernelRfl
import Derived.RowKit3
import Derived.Deep.LoopGhost
import Derived.Deep.QuietTactic
import Derived.BigQuiet
import Derived.WideLaws
import Derived.Deep.DeepCutAuto
import Derived.Deep.CutBlock
import Derived.Deep.RegionHeld3
import Derived.Laws.Rows
import Derived.Lib.AppendStr
import Derived.ArgAppend
import Derived.Laws.IdiomCopy
import Derived.OrdersHeld
import Derived.Laws.BitsLemmas
import Derived.RowKit
import Derived.Test.YtfoloneeibgoiaaDoorRpErr
import Derived.Test.YtfoloneeibgoiaaDoorRpIdx
import Derived.Test.YtfoloneeibgoiaaDoorWWords
import Derived.Test.YtfoloneeibgoiaaDoorWLast
import Derived.Test.YtfoloneeibgoiaaDoorWTab
import Derived.Test.YtfoloneeibgoiaaDoorWFour
import Derived.Test.YtfoloneeibgoiaaDoorWQPut
import Derived.Test.YtfoloneeibgoiaaDoorWApart
import Derived.Test.YtfoloneeibgoiaaDoorWArr
import Derived.Test.YtfoloneeibgoiaaDoorWZeros
import Derived.Test.YtfoloneeibgoiaaDoorWFoot
import Derived.Test.YtfoloneeibgoiaaDoorWKept
import Derived.Test.YtfoloneeibgoiaaDoorWShare
import Derived.Test.YtfoloneeibgoiaaDoorWN
import Derived.Test.YtfoloneeibgoiaaDoorWFootNe
import Derived.Test.YtfoloneeibgoiaaDoorWAt
import Derived.Test.YtfoloneeibgoiaaDoorWEqStruct
import Derived.Test.YtfoloneeibgoiaaDoorWRepsOne
import Derived.Test.YtfoloneeibgoiaaDoorWInv
import Derived.Test.YtfoloneeibgoiaaDoorWInvWords
import Derived.Test.YtfoloneeibgoiaaDoorWGuard
import Derived.Test.YtfoloneeibgoiaaDoorWNEv
import Derived.Test.YtfoloneeibgoiaaDoorWMore
namespace Go.Proofs.YtfoloneeibgoiaaDoor.U8
open Go.RowKit Go.Proofs.YtfoloneeibgoiaaDoorW.PrintWords Go.Proofs.YtfoloneeibgoiaaDoorW.PrintLast Go.Proofs.YtfoloneeibgoiaaDoorW.PrintMore
attribute [local go_sem] max2_int min2_int max_two min_two max_three min_three max_four min_four   -- for this text's walks alone
set_option linter.unusedVariables false
set_option linter.unusedSimpArgs false
def errW : Option Int → Value
  | none => .nilIface
  | some c => .iface 0 (.int .i64 c)
theorem errW_none : errW none = .nilIface := rfl
theorem errW_some (c : Int) : errW (some c) = .iface 0 (.int .i64 c) := rfl

theorem info5 : (Tryd.prog.info? 5).map (fun i => (i.zero, i.size, i.bytes)) = some (some (.int .u8 0), 1, 1) := by kernel_rfl
theorem info9 : (Tryd.prog.info? 9).map (fun i => (i.zero, i.size, i.bytes)) = some (some (.string ⟨#[]⟩), 1, 16) := by kernel_rfl
theorem info25 : (Tryd.prog.info? 25).map (fun i => (i.zero, i.size, i.bytes)) = some (some (.agg #[(.int .i64 0), (.string ⟨#[]⟩), (.slice none 0 0), (.slice none 0 0)]), 4, 72) := by kernel_rfl
theorem info56 : (Tryd.prog.info? 56).map (fun i => (i.zero, i.size, i.bytes)) = some (some (.agg #[(.int .i64 0), (.int .i64 0), (.int .i64 0), (.slice none 0 0), (.slice none 0 0)]), 5, 72) := by kernel_rfl
theorem info86 : (Tryd.prog.info? 86).map (fun i => (i.zero, i.size, i.bytes)) = some (some (.agg #[(.int .i64 0), (.int .i64 0)]), 2, 16) := by kernel_rfl
/-! ### spec_high: function 21 -/
def spec_high.f (a0 : Int) : Option (Bool) := if 55296 ≤ a0 then (some (decide (a0 ≤ 56319))) else (some false)
set_option maxHeartbeats 8000000 in
set_option maxRecDepth 100000 in
theorem spec_high.calls (a0 : Int) (r : Bool) (w : World) (h : spec_high.f a0 = some r) :
    Calls Tryd.prog 21 #[.int .i64 a0] w fun e w' => e = .returned (.bool r) ∧ Drawn0 w w' := by
  have H : (if 55296 ≤ a0 then (some (decide (a0 ≤ 56319))) else (some false)) = some r := h
  clear h
  by_cases c2 : 55296 ≤ a0
  · rw [if_pos c2] at H
    have c2b0 : decide (55296 ≤ a0) = true := decide_eq_true c2
    clear c2
    obtain rfl := Option.some.inj H
    go_enter Tryd.func21, Tryd.ntmps21
    go_wp2
    go_ret
    exact ⟨by first | rfl | (simp; done) | (simp [*]; done), by repeat (first | exact Drawn0.refl _ | apply Drawn0.step)⟩
  · rw [if_neg c2] at H
    have c2b0 : decide (55296 ≤ a0) = false := decide_eq_false c2
    clear c2
    obtain rfl := Option.some.inj H
    go_enter Tryd.func21, Tryd.ntmps21
    go_wp2
    go_ret
    exact ⟨by first | rfl | (simp; done) | (simp [*]; done), by repeat (first | exact Drawn0.refl _ | apply Drawn0.step)⟩


/-! ### spec_low: function 22 -/
def spec_low.f (a0 : Int) : Option (Bool) := if 56320 ≤ a0 then (some (decide (a0 ≤ 57343))) else (some false)
set_option maxHeartbeats 8000000 in
set_option maxRecDepth 100000 in
theorem spec_low.calls (a0 : Int) (r : Bool) (w : World) (h : spec_low.f a0 = some r) :
    Calls Tryd.prog 22 #[.int .i64 a0] w fun e w' => e = .returned (.bool r) ∧ Drawn0 w w' := by
  have H : (if 56320 ≤ a0 then (some (decide (a0 ≤ 57343))) else (some false)) = some r := h
  clear h
  by_cases c2 : 56320 ≤ a0
  · rw [if_pos c2] at H
    have c2b0 : decide (56320 ≤ a0) = true := decide_eq_true c2
    clear c2
    obtain rfl := Option.some.inj H
    go_enter Tryd.func22, Tryd.ntmps22
    go_wp2
    go_ret
    exact ⟨by first | rfl | (simp; done) | (simp [*]; done), by repeat (first | exact Drawn0.refl _ | apply Drawn0.step)⟩
  · rw [if_neg c2] at H
    have c2b0 : decide (56320 ≤ a0) = false := decide_eq_false c2
    clear c2
    obtain rfl := Option.some.inj H
    go_enter Tryd.func22, Tryd.ntmps22
    go_wp2
    go_ret
    exact ⟨by first | rfl | (simp; done) | (simp [*]; done), by repeat (first | exact Drawn0.refl _ | apply Drawn0.step)⟩


/-! ### spec_Character: function 19 -/
mutual
def spec_Character.j2 : Nat → ByteArray → Int → Int → Int → Int → Option (Int × Int × Bool)
  | 0, _, _, _, _, _ => none
  | k + 1, x0, x1, x7, x8, x9 => if (wrap64 ((x0.size : Int) - x1)) ≤ x8 then (some (65533, 1, false)) else (spec_Character.l0 k x0 x1 x7 x8 x9 1)
def spec_Character.l0 : Nat → ByteArray → Int → Int → Int → Int → Int → Option (Int × Int × Bool)
  | 0, _, _, _, _, _, _ => none
  | k + 1, x0, x1, x7, x8, x9, x10 => if x10 ≤ x8 then (if 0 ≤ (wrap64 (x1 + x10)) then (if (wrap64 (x1 + x10)) < (x0.size : Int) then (if (wrap64 (bt x0 (wrap64 (x1 + x10)))) < 128 then (some (65533, 1, false)) else (if (wrap64 (bt x0 (wrap64 (x1 + x10)))) > 191 then (some (65533, 1, false)) else (spec_Character.l0 k x0 x1 (wrap64 ((wrap64 ((wrap64 (x7 * 64)) + (wrap64 (bt x0 (wrap64 (x1 + x10)))))) - 128)) x8 x9 (wrap64 (x10 + 1))))) else (none)) else (none)) else (if x7 < x9 then (some (65533, 1, false)) else (if x7 > 1114111 then (some (65533, 1, false)) else ((spec_high.f x7).bind fun t101 => (if t101 = true then (some (65533, 1, false)) else ((spec_low.f x7).bind fun t102 => (if t102 = true then (some (65533, 1, false)) else (some (x7, wrap64 (x8 + 1), true))))))))
def spec_Character.j0 : Nat → ByteArray → Int → Int → Bool → Option (Int × Int × Bool)
  | 0, _, _, _, _ => none
  | k + 1, x0, x1, x7, x20 => if x20 = true then (spec_Character.j2 k x0 x1 (wrap64 (x7 - 192)) 1 128) else (if 224 ≤ x7 then (spec_Character.j1 k x0 x1 x7 (decide (x7 ≤ 239))) else (spec_Character.j1 k x0 x1 x7 false))
def spec_Character.j1 : Nat → ByteArray → Int → Int → Bool → Option (Int × Int × Bool)
  | 0, _, _, _, _ => none
  | k + 1, x0, x1, x7, x29 => if x29 = true then (spec_Character.j2 k x0 x1 (wrap64 (x7 - 224)) 2 2048) else (if 240 ≤ x7 then (if x7 ≤ 244 then (spec_Character.j2 k x0 x1 (wrap64 (x7 - 240)) 3 65536) else (some (65533, 1, false))) else (some (65533, 1, false)))
end
def spec_Character.f (k : Nat) (a0 : ByteArray) (a1 : Int) : Option (Int × Int × Bool) := if 0 ≤ a1 then (if a1 < (a0.size : Int) then (if (wrap64 (bt a0 a1)) < 128 then (some (wrap64 (bt a0 a1), 1, true)) else (if 194 ≤ (wrap64 (bt a0 a1)) then (spec_Character.j0 k a0 a1 (wrap64 (bt a0 a1)) (decide ((wrap64 (bt a0 a1)) ≤ 223))) else (spec_Character.j0 k a0 a1 (wrap64 (bt a0 a1)) false))) else (none)) else (none)
theorem spec_Character.mono_l : ∀ k, (∀ y0 y1 y2 y3 y4, LeO (spec_Character.j2 k y0 y1 y2 y3 y4) (spec_Character.j2 (k + 1) y0 y1 y2 y3 y4)) ∧ (∀ y0 y1 y2 y3 y4 y5, LeO (spec_Character.l0 k y0 y1 y2 y3 y4 y5) (spec_Character.l0 (k + 1) y0 y1 y2 y3 y4 y5)) ∧ (∀ y0 y1 y2 y3, LeO (spec_Character.j0 k y0 y1 y2 y3) (spec_Character.j0 (k + 1) y0 y1 y2 y3)) ∧ (∀ y0 y1 y2 y3, LeO (spec_Character.j1 k y0 y1 y2 y3) (spec_Character.j1 (k + 1) y0 y1 y2 y3))
  | 0 => ⟨fun _ _ _ _ _ r h => by simp [spec_Character.j2] at h, fun _ _ _ _ _ _ r h => by simp [spec_Character.l0] at h, fun _ _ _ _ r h => by simp [spec_Character.j0] at h, fun _ _ _ _ r h => by simp [spec_Character.j1] at h⟩
  | k + 1 => by
    obtain ⟨ih0, ih1, ih2, ih3⟩ := spec_Character.mono_l k
    refine ⟨?_, ?_, ?_, ?_⟩
    · intro y0 y1 y2 y3 y4
      unfold spec_Character.j2
      repeat' first
      | (with_reducible exact ih0 _ _ _ _ _)
      | (with_reducible exact ih1 _ _ _ _ _ _)
      | (with_reducible exact ih2 _ _ _ _)
      | (with_reducible exact ih3 _ _ _ _)
      | (with_reducible exact LeO.refl _)
      | (with_reducible exact LeO.none _)
      | (with_reducible refine LeO.ite ?_ ?_)
      | (with_reducible refine LeO.bind ?_ (fun _ => ?_))
      | exact ih0 _ _ _ _ _
      | exact ih1 _ _ _ _ _ _
      | exact ih2 _ _ _ _
      | exact ih3 _ _ _ _
      | exact LeO.none _
      | refine LeO.ite ?_ ?_
      | refine LeO.bind ?_ (fun _ => ?_)
    · intro y0 y1 y2 y3 y4 y5
      unfold spec_Character.l0
      repeat' first
      | (with_reducible exact ih0 _ _ _ _ _)
      | (with_reducible exact ih1 _ _ _ _ _ _)
      | (with_reducible exact ih2 _ _ _ _)
      | (with_reducible exact ih3 _ _ _ _)
      | (with_reducible exact LeO.refl _)
      | (with_reducible exact LeO.none _)
      | (with_reducible refine LeO.ite ?_ ?_)
      | (with_reducible refine LeO.bind ?_ (fun _ => ?_))
      | exact ih0 _ _ _ _ _
      | exact ih1 _ _ _ _ _ _
      | exact ih2 _ _ _ _
      | exact ih3 _ _ _ _
      | exact LeO.none _
      | refine LeO.ite ?_ ?_
      | refine LeO.bind ?_ (fun _ => ?_)
    · intro y0 y1 y2 y3
      unfold spec_Character.j0
      repeat' first
      | (with_reducible exact ih0 _ _ _ _ _)
      | (with_reducible exact ih1 _ _ _ _ _ _)
      | (with_reducible exact ih2 _ _ _ _)
      | (with_reducible exact ih3 _ _ _ _)
      | (with_reducible exact LeO.refl _)
      | (with_reducible exact LeO.none _)
      | (with_reducible refine LeO.ite ?_ ?_)
      | (with_reducible refine LeO.bind ?_ (fun _ => ?_))
      | exact ih0 _ _ _ _ _
      | exact ih1 _ _ _ _ _ _
      | exact ih2 _ _ _ _
      | exact ih3 _ _ _ _
      | exact LeO.none _
      | refine LeO.ite ?_ ?_
      | refine LeO.bind ?_ (fun _ => ?_)
    · intro y0 y1 y2 y3
      unfold spec_Character.j1
      repeat' first
      | (with_reducible exact ih0 _ _ _ _ _)
      | (with_reducible exact ih1 _ _ _ _ _ _)
      | (with_reducible exact ih2 _ _ _ _)
      | (with_reducible exact ih3 _ _ _ _)
      | (with_reducible exact LeO.refl _)
      | (with_reducible exact LeO.none _)
      | (with_reducible refine LeO.ite ?_ ?_)
      | (with_reducible refine LeO.bind ?_ (fun _ => ?_))
      | exact ih0 _ _ _ _ _
      | exact ih1 _ _ _ _ _ _
      | exact ih2 _ _ _ _
      | exact ih3 _ _ _ _
      | exact LeO.none _
      | refine LeO.ite ?_ ?_
      | refine LeO.bind ?_ (fun _ => ?_)
theorem spec_Character.mono : ∀ a0 a1 k, LeO (spec_Character.f k a0 a1) (spec_Character.f (k + 1) a0 a1) := by
  intro a0 a1 k
  obtain ⟨ih0, ih1, ih2, ih3⟩ := spec_Character.mono_l k
  unfold spec_Character.f
  repeat' first
      | (with_reducible exact ih0 _ _ _ _ _)
      | (with_reducible exact ih1 _ _ _ _ _ _)
      | (with_reducible exact ih2 _ _ _ _)
      | (with_reducible exact ih3 _ _ _ _)
      | (with_reducible exact LeO.refl _)
      | (with_reducible exact LeO.none _)
      | (with_reducible refine LeO.ite ?_ ?_)
      | (with_reducible refine LeO.bind ?_ (fun _ => ?_))
      | exact ih0 _ _ _ _ _
      | exact ih1 _ _ _ _ _ _
      | exact ih2 _ _ _ _
      | exact ih3 _ _ _ _
      | exact LeO.none _
      | refine LeO.ite ?_ ?_
      | refine LeO.bind ?_ (fun _ => ?_)
set_option maxHeartbeats 8000000 in
set_option maxRecDepth 100000 in
theorem spec_Character.calls (k : Nat) (a0 : ByteArray) (a1 : Int) (r1 : Int) (r2 : Int) (r3 : Bool) (w : World) (h : spec_Character.f k a0 a1 = some (r1, r2, r3)) :
    Calls Tryd.prog 19 #[.string a0, .int .i64 a1] w fun e w' => e = .returned (.tuple #[.int .i64 r1, .int .i64 r2, .bool r3]) ∧ Drawn0 w w' := by
  have H : (if 0 ≤ a1 then (if a1 < (a0.size : Int) then (if (wrap64 (bt a0 a1)) < 128 then (some (wrap64 (bt a0 a1), 1, true)) else (if 194 ≤ (wrap64 (bt a0 a1)) then (spec_Character.j0 k a0 a1 (wrap64 (bt a0 a1)) (decide ((wrap64 (bt a0 a1)) ≤ 223))) else (spec_Character.j0 k a0 a1 (wrap64 (bt a0 a1)) false))) else (none)) else (none)) = some (r1, r2, r3) := h
  clear h
  by_cases c3 : 0 ≤ a1
  · rw [if_pos c3] at H
    have c3b0 : decide (0 ≤ a1) = true := decide_eq_true c3
    clear c3
    by_cases c4 : a1 < (a0.size : Int)
    · rw [if_pos c4] at H
      have c4b0 : decide (a1 < (a0.size : Int)) = true := decide_eq_true c4
      clear c4
      have HC6 := Aside0.mk H
      clear H
      have p5 : 0 ≤ (a1 : Int) := of_decide_eq_true (by first | (with_reducible assumption) | assumption)
      have q5 : a1 < (a0.size : Int) := of_decide_eq_true (by first | (with_reducible assumption) | assumption)
      have hx5 := bt_at a0 a1
      replace p5 := eq_true p5
      replace q5 := eq_true q5
      go_enter Tryd.func19, Tryd.ntmps19
      go_upto_block 0 with (fail)
      go_cut [7, 8, 9] (fun v7 v8 v9 wc => ∃ (kq : Nat) (x7_5 : Int) (x8_5 : Int) (x9_5 : Int), v7 = .int .i64 x7_5 ∧ v8 = .int .i64 x8_5 ∧ v9 = .int .i64 x9_5 ∧ Aside0 (spec_Character.j2 kq a0 a1 x7_5 x8_5 x9_5 = some (r1, r2, r3)) ∧ Aside0 (kq ≤ k) ∧ Drawn0 w wc)
      case first =>
        have H := HC6.out
        clear HC6
        by_cases c7 : (wrap64 (bt a0 a1)) < 128
        · rw [if_pos c7] at H
          have c7b0 : decide ((wrap64 (bt a0 a1)) < 128) = true := decide_eq_true c7
          clear c7
          (first | rw [c7b0] | (simp only [i64_w, i32_w]; rw [c7b0]) | skip)
          simp only [Option.some.injEq, Prod.mk.injEq] at H
          obtain ⟨rfl, rfl, rfl⟩ := H
          go_wp2
          go_ret3
          exact ⟨by first | rfl | (simp; done) | (simp [*]; done), by repeat (first | exact Drawn0.refl _ | apply Drawn0.step)⟩
        · rw [if_neg c7] at H
          have c7b0 : decide ((wrap64 (bt a0 a1)) < 128) = false := decide_eq_false c7
          clear c7
          (first | rw [c7b0] | (simp only [i64_w, i32_w]; rw [c7b0]) | skip)
          have HC8 := Aside0.mk H
          clear H
          go_upto_region 6 with (fail)
          go_cut [20] (fun v20 wc => ∃ (kq : Nat) (x20_7 : Bool), v20 = .bool x20_7 ∧ Aside0 (spec_Character.j0 kq a0 a1 (wrap64 (bt a0 a1)) x20_7 = some (r1, r2, r3)) ∧ Aside0 (kq ≤ k) ∧ Drawn0 w wc)
          case first =>
            have H := HC8.out
            clear HC8
            by_cases c9 : 194 ≤ (wrap64 (bt a0 a1))
            · rw [if_pos c9] at H
              have c9b0 : decide (194 ≤ (wrap64 (bt a0 a1))) = true := decide_eq_true c9
              clear c9
              (first | rw [c9b0] | (simp only [i64_w, i32_w]; rw [c9b0]) | skip)
              have H' := Aside0.mk H
              clear H
              go_wp2
              (first | go_meet)
              case rel => exact ⟨_, (decide ((wrap64 (bt a0 a1)) ≤ 223)), (by first | rfl | (simp; done) | (simp [*]; done)), H', ⟨by first | omega | exact Nat.le_refl _⟩, by repeat (first | exact Drawn0.refl _ | apply Drawn0.step)⟩
            · rw [if_neg c9] at H
              have c9b0 : decide (194 ≤ (wrap64 (bt a0 a1))) = false := decide_eq_false c9
              clear c9
              (first | rw [c9b0] | (simp only [i64_w, i32_w]; rw [c9b0]) | skip)
              have H' := Aside0.mk H
              clear H
              go_wp2
              (first | go_meet)
              case rel => exact ⟨_, (false), (by first | rfl | (simp; done) | (simp [*]; done)), H', ⟨by first | omega | exact Nat.le_refl _⟩, by repeat (first | exact Drawn0.refl _ | apply Drawn0.step)⟩
          case rest =>
            clear HC8
            try clear c1
            try clear p2
            try clear c3
            try clear c3b0
            try clear c4
            try clear c4b0
            try clear p5
            try clear q5
            try clear hx5
            try clear p6
            try clear c7
            try clear c7b0
            try clear c9
            try clear c9b0
            try clear p5
            try clear q5
            obtain ⟨kq, x20_7, rfl, HA, HJ7, ⟨mc7, rfl⟩⟩ := hcut
            cases kq with
            | zero => exact absurd HA.out (by simp [spec_Character.j0])
            | succ kj7 =>
              have H := HA.out
              clear HA
              simp only [spec_Character.j0] at H
              by_cases c10 : x20_7 = true
              · subst c10
                have H1 : (spec_Character.j2 kj7 a0 a1 (wrap64 ((wrap64 (bt a0 a1)) - 192)) 1 128) = some (r1, r2, r3) := by rw [if_pos rfl] at H; exact H
                clear H
                have H := H1
                clear H1
                have H' := Aside0.mk H
                clear H
                go_wp2
                (first | go_meet)
                case rel => exact ⟨_, (wrap64 ((wrap64 (bt a0 a1)) - 192)), (1), (128), (by first | rfl | (simp; done) | (simp [*]; done)), (by first | rfl | (simp; done) | (simp [*]; done)), (by first | rfl | (simp; done) | (simp [*]; done)), H', ⟨by have := HJ7.out; first | omega | exact Nat.le_refl _⟩, by repeat (first | exact Drawn0.refl _ | apply Drawn0.step)⟩
              · replace c10 := Bool.eq_false_iff.mpr c10
                subst c10
                have H1 : (if 224 ≤ (wrap64 (bt a0 a1)) then (spec_Character.j1 kj7 a0 a1 (wrap64 (bt a0 a1)) (decide ((wrap64 (bt a0 a1)) ≤ 239))) else (spec_Character.j1 kj7 a0 a1 (wrap64 (bt a0 a1)) false)) = some (r1, r2, r3) := by rw [if_neg (show ¬ (false = true) by decide)] at H; exact H
                clear H
                have H := H1
                clear H1
                have HC11 := Aside0.mk H
                clear H
                go_upto_region 8 with (fail)
                go_cut [29] (fun v29 wc => ∃ (kq : Nat) (x29_10 : Bool), v29 = .bool x29_10 ∧ Aside0 (spec_Character.j1 kq a0 a1 (wrap64 (bt a0 a1)) x29_10 = some (r1, r2, r3)) ∧ Aside0 (kq ≤ kj7) ∧ Drawn0 w wc)
                case first =>
                  have H := HC11.out
                  clear HC11
                  by_cases c12 : 224 ≤ (wrap64 (bt a0 a1))
                  · rw [if_pos c12] at H
                    have c12b0 : decide (224 ≤ (wrap64 (bt a0 a1))) = true := decide_eq_true c12
                    clear c12
                    (first | rw [c12b0] | (simp only [i64_w, i32_w]; rw [c12b0]) | skip)
                    have H' := Aside0.mk H
                    clear H
                    go_wp2
                    (first | go_meet)
                    case rel => exact ⟨_, (decide ((wrap64 (bt a0 a1)) ≤ 239)), (by first | rfl | (simp; done) | (simp [*]; done)), H', ⟨by have := HJ7.out; first | omega | exact Nat.le_refl _⟩, by repeat (first | exact Drawn0.refl _ | apply Drawn0.step)⟩
                  · rw [if_neg c12] at H
                    have c12b0 : decide (224 ≤ (wrap64 (bt a0 a1))) = false := decide_eq_false c12
                    clear c12
                    (first | rw [c12b0] | (simp only [i64_w, i32_w]; rw [c12b0]) | skip)
                    have H' := Aside0.mk H
                    clear H
                    go_wp2
                    (first | go_meet)
                    case rel => exact ⟨_, (false), (by first | rfl | (simp; done) | (simp [*]; done)), H', ⟨by have := HJ7.out; first | omega | exact Nat.le_refl _⟩, by repeat (first | exact Drawn0.refl _ | apply Drawn0.step)⟩
                case rest =>
                  clear HC11
                  try clear c1
                  try clear p2
                  try clear c3
                  try clear c3b0
                  try clear c4
                  try clear c4b0
                  try clear p5
                  try clear q5
                  try clear hx5
                  try clear p6
                  try clear c7
                  try clear c7b0
                  try clear c9
                  try clear c9b0
                  try clear c10
                  try clear c12
                  try clear c12b0
                  try clear p2
                  try clear p5
                  try clear p6
                  try clear q5
                  obtain ⟨kq, x29_10, rfl, HA, HJ10, ⟨mc10, rfl⟩⟩ := hcut
                  cases kq with
                  | zero => exact absurd HA.out (by simp [spec_Character.j1])
                  | succ kj10 =>
                    have H := HA.out
                    clear HA
                    simp only [spec_Character.j1] at H
                    by_cases c13 : x29_10 = true
                    · subst c13
                      have H1 : (spec_Character.j2 kj10 a0 a1 (wrap64 ((wrap64 (bt a0 a1)) - 224)) 2 2048) = some (r1, r2, r3) := by rw [if_pos rfl] at H; exact H
                      clear H
                      have H := H1
                      clear H1
                      have H' := Aside0.mk H
                      clear H
                      go_wp2
                      (first | go_meet)
                      case rel => exact ⟨_, (wrap64 ((wrap64 (bt a0 a1)) - 224)), (2), (2048), (by first | rfl | (simp; done) | (simp [*]; done)), (by first | rfl | (simp; done) | (simp [*]; done)), (by first | rfl | (simp; done) | (simp [*]; done)), H', ⟨by have := HJ7.out; have := HJ10.out; first | omega | exact Nat.le_refl _⟩, by repeat (first | exact Drawn0.refl _ | apply Drawn0.step)⟩
                    · replace c13 := Bool.eq_false_iff.mpr c13
                      subst c13
                      have H1 : (if 240 ≤ (wrap64 (bt a0 a1)) then (if (wrap64 (bt a0 a1)) ≤ 244 then (spec_Character.j2 kj10 a0 a1 (wrap64 ((wrap64 (bt a0 a1)) - 240)) 3 65536) else (some (65533, 1, false))) else (some (65533, 1, false))) = some (r1, r2, r3) := by rw [if_neg (show ¬ (false = true) by decide)] at H; exact H
                      clear H
                      have H := H1
                      clear H1
                      by_cases c14 : 240 ≤ (wrap64 (bt a0 a1))
                      · rw [if_pos c14] at H
                        have c14b0 : decide (240 ≤ (wrap64 (bt a0 a1))) = true := decide_eq_true c14
                        clear c14
                        by_cases c15 : (wrap64 (bt a0 a1)) ≤ 244
                        · rw [if_pos c15] at H
                          have c15b0 : decide ((wrap64 (bt a0 a1)) ≤ 244) = true := decide_eq_true c15
                          clear c15
                          have H' := Aside0.mk H
                          clear H
                          go_wp2
                          (first | go_meet)
                          case rel => exact ⟨_, (wrap64 ((wrap64 (bt a0 a1)) - 240)), (3), (65536), (by first | rfl | (simp; done) | (simp [*]; done)), (by first | rfl | (simp; done) | (simp [*]; done)), (by first | rfl | (simp; done) | (simp [*]; done)), H', ⟨by have := HJ7.out; have := HJ10.out; first | omega | exact Nat.le_refl _⟩, by repeat (first | exact Drawn0.refl _ | apply Drawn0.step)⟩
                        · rw [if_neg c15] at H
                          have c15b0 : decide ((wrap64 (bt a0 a1)) ≤ 244) = false := decide_eq_false c15
                          clear c15
                          simp only [Option.some.injEq, Prod.mk.injEq] at H
                          obtain ⟨rfl, rfl, rfl⟩ := H
                          go_wp2
                          go_ret3
                          exact ⟨by first | rfl | (simp; done) | (simp [*]; done), by repeat (first | exact Drawn0.refl _ | apply Drawn0.step)⟩
                      · rw [if_neg c14] at H
                        have c14b0 : decide (240 ≤ (wrap64 (bt a0 a1))) = false := decide_eq_false c14
                        clear c14
                        simp only [Option.some.injEq, Prod.mk.injEq] at H
                        obtain ⟨rfl, rfl, rfl⟩ := H
                        go_wp2
                        go_ret3
                        exact ⟨by first | rfl | (simp; done) | (simp [*]; done), by repeat (first | exact Drawn0.refl _ | apply Drawn0.step)⟩
      case rest =>
        clear HC6
        try clear c1
        try clear p2
        try clear c3
        try clear c3b0
        try clear c4
        try clear c4b0
        try clear p5
        try clear q5
        try clear hx5
        try clear p6
        try clear c7
        try clear c7b0
        try clear c9
        try clear c9b0
        try clear c10
        try clear c12
        try clear c12b0
        try clear c13
        try clear c14
        try clear c14b0
        try clear c15
        try clear c15b0
        try clear p2
        try clear p5
        try clear p6
        try clear q5
        obtain ⟨kq, x7_5, x8_5, x9_5, rfl, rfl, rfl, HA, HJ5, ⟨mc5, rfl⟩⟩ := hcut
        cases kq with
        | zero => exact absurd HA.out (by simp [spec_Character.j2])
        | succ kj5 =>
          have H := HA.out
          clear HA
          simp only [spec_Character.j2] at H
          by_cases c16 : (wrap64 ((a0.size : Int) - a1)) ≤ x8_5
          · rw [if_pos c16] at H
            have c16b0 : decide ((wrap64 ((a0.size : Int) - a1)) ≤ x8_5) = true := decide_eq_true c16
            clear c16
            simp only [Option.some.injEq, Prod.mk.injEq] at H
            obtain ⟨rfl, rfl, rfl⟩ := H
            go_wp2
            go_ret3
            exact ⟨by first | rfl | (simp; done) | (simp [*]; done), by repeat (first | exact Drawn0.refl _ | apply Drawn0.step)⟩
          · rw [if_neg c16] at H
            have c16b0 : decide ((wrap64 ((a0.size : Int) - a1)) ≤ x8_5) = false := decide_eq_false c16
            clear c16
            have H' := Aside0.mk H
            clear H
            go_wp2
            (try simp only [Act.put, List.setIfInBounds_toArray, List.set_cons_zero, List.set_cons_succ])
            go_loopg [7, 10] kj5 (fun kq v7 v10 w' => ∃ (x7_2 : Int) (x10_2 : Int), v7 = .int .i64 x7_2 ∧ v10 = .int .i64 x10_2 ∧ Aside0 (spec_Character.l0 kq a0 a1 x7_2 x8_5 x9_5 x10_2 = some (r1, r2, r3)) ∧ Aside0 (kq ≤ kj5) ∧ Drawn0 w w')
            case atStart => exact ⟨(x7_5), (1), (by first | rfl | (simp; done) | (simp [*]; done)), (by first | rfl | (simp; done) | (simp [*]; done)), H', ⟨Nat.le_refl _⟩, by repeat (first | exact Drawn0.refl _ | apply Drawn0.step)⟩
            case round =>
              clear H'
              try clear c1
              try clear p2
              try clear c3
              try clear c3b0
              try clear c4
              try clear c4b0
              try clear c5
              try clear p5
              try clear q5
              try clear hx5
              try clear p6
              try clear c7
              try clear c7b0
              try clear c9
              try clear c9b0
              try clear c10
              try clear c12
              try clear c12b0
              try clear c13
              try clear c14
              try clear c14b0
              try clear c15
              try clear c15b0
              try clear c16
              try clear c16b0
              try clear p2
              try clear p5
              try clear p6
              try clear q5
              obtain ⟨x7_2, x10_2, rfl, rfl, HA, HK2, ⟨m2, rfl⟩⟩ := hrel
              cases gk with
              | zero => exact absurd HA.out (by simp [spec_Character.l0])
              | succ k2 =>
                have H := HA.out
                clear HA
                simp only [spec_Character.l0] at H
                by_cases c17 : x10_2 ≤ x8_5
                · rw [if_pos c17] at H
                  have c17b0 : decide (x10_2 ≤ x8_5) = true := decide_eq_true c17
                  clear c17
                  obtain ⟨ji18, hji18⟩ : ∃ j_ : Int, (wrap64 (a1 + x10_2)) = j_ := ⟨_, rfl⟩
                  replace H : (if 0 ≤ (ji18) then (if (ji18) < (a0.size : Int) then (if (wrap64 (bt a0 (ji18))) < 128 then (some (65533, 1, false)) else (if (wrap64 (bt a0 (ji18))) > 191 then (some (65533, 1, false)) else (spec_Character.l0 k2 a0 a1 (wrap64 ((wrap64 ((wrap64 (x7_2 * 64)) + (wrap64 (bt a0 (ji18))))) - 128)) x8_5 x9_5 (wrap64 (x10_2 + 1))))) else (none)) else (none)) = some (r1, r2, r3) := by first | (rw [hji18] at H; exact H) | (simp only [hji18] at H ⊢; exact H)
                  have hji18w : (IntKind.i64.wrap (a1 + x10_2)) = ji18 := (i64_w _).trans hji18
                  by_cases c19 : 0 ≤ (ji18)
                  · rw [if_pos c19] at H
                    have c19b0 : decide (0 ≤ (ji18)) = true := decide_eq_true c19
                    clear c19
                    by_cases c20 : (ji18) < (a0.size : Int)
                    · rw [if_pos c20] at H
                      have c20b0 : decide ((ji18) < (a0.size : Int)) = true := decide_eq_true c20
                      clear c20
                      by_cases c22 : (wrap64 (bt a0 (ji18))) < 128
                      · rw [if_pos c22] at H
                        have c22b0 : decide ((wrap64 (bt a0 (ji18))) < 128) = true := decide_eq_true c22
                        clear c22
                        simp only [Option.some.injEq, Prod.mk.injEq] at H
                        obtain ⟨rfl, rfl, rfl⟩ := H
                        have p21 : 0 ≤ ((ji18) : Int) := of_decide_eq_true (by first | (with_reducible assumption) | assumption)
                        have q21 : (ji18) < (a0.size : Int) := of_decide_eq_true (by first | (with_reducible assumption) | assumption)
                        have hx21 := bt_at a0 (ji18)
                        replace p21 := eq_true p21
                        replace q21 := eq_true q21
                        go_wp2
                        go_ret3
                        exact ⟨by first | rfl | (simp; done) | (simp only [← hji18] <;> (first | rfl | (simp; done))) | (simp [*]; done) | (simp only [*]; done), by repeat (first | exact Drawn0.refl _ | apply Drawn0.step)⟩
                      · rw [if_neg c22] at H
                        have c22b0 : decide ((wrap64 (bt a0 (ji18))) < 128) = false := decide_eq_false c22
                        clear c22
                        by_cases c23 : (wrap64 (bt a0 (ji18))) > 191
                        · rw [if_pos c23] at H
                          have c23b0 : decide (191 < (wrap64 (bt a0 (ji18)))) = true := decide_eq_true c23
                          clear c23
                          simp only [Option.some.injEq, Prod.mk.injEq] at H
                          obtain ⟨rfl, rfl, rfl⟩ := H
                          have p21 : 0 ≤ ((ji18) : Int) := of_decide_eq_true (by first | (with_reducible assumption) | assumption)
                          have q21 : (ji18) < (a0.size : Int) := of_decide_eq_true (by first | (with_reducible assumption) | assumption)
                          have hx21 := bt_at a0 (ji18)
                          replace p21 := eq_true p21
                          replace q21 := eq_true q21
                          go_wp2
                          go_ret3
                          exact ⟨by first | rfl | (simp; done) | (simp only [← hji18] <;> (first | rfl | (simp; done))) | (simp [*]; done) | (simp only [*]; done), by repeat (first | exact Drawn0.refl _ | apply Drawn0.step)⟩
                        · rw [if_neg c23] at H
                          have c23b0 : decide (191 < (wrap64 (bt a0 (ji18)))) = false := decide_eq_false c23
                          clear c23
                          have H' := Aside0.mk H
                          clear H
                          have p21 : 0 ≤ ((ji18) : Int) := of_decide_eq_true (by first | (with_reducible assumption) | assumption)
                          have q21 : (ji18) < (a0.size : Int) := of_decide_eq_true (by first | (with_reducible assumption) | assumption)
                          have hx21 := bt_at a0 (ji18)
                          replace p21 := eq_true p21
                          replace q21 := eq_true q21
                          go_wp2
                          go_roundg k2
                          case measure => have := HJ5.out; have := HK2.out; omega
                          case rel => exact ⟨(wrap64 ((wrap64 ((wrap64 (x7_2 * 64)) + (wrap64 (bt a0 (ji18))))) - 128)), (wrap64 (x10_2 + 1)), (by first | rfl | (simp; done) | (simp only [← hji18] <;> (first | rfl | (simp; done))) | (simp [*]; done) | (simp only [*]; done)), (by first | rfl | (simp; done) | (simp [*]; done)), H', ⟨by have := HJ5.out; have := HK2.out; omega⟩, by repeat (first | exact Drawn0.refl _ | apply Drawn0.step)⟩
                    · rw [if_neg c20] at H
                      exact absurd H (by simp)
                  · rw [if_neg c19] at H
                    exact absurd H (by simp)
                · rw [if_neg c17] at H
                  have c17b0 : decide (x10_2 ≤ x8_5) = false := decide_eq_false c17
                  clear c17
                  by_cases c24 : x7_2 < x9_5
                  · rw [if_pos c24] at H
                    have c24b0 : decide (x7_2 < x9_5) = true := decide_eq_true c24
                    clear c24
                    simp only [Option.some.injEq, Prod.mk.injEq] at H
                    obtain ⟨rfl, rfl, rfl⟩ := H
                    go_wp2
                    go_ret3
                    exact ⟨by first | rfl | (simp; done) | (simp [*]; done), by repeat (first | exact Drawn0.refl _ | apply Drawn0.step)⟩
                  · rw [if_neg c24] at H
                    have c24b0 : decide (x7_2 < x9_5) = false := decide_eq_false c24
                    clear c24
                    by_cases c25 : x7_2 > 1114111
                    · rw [if_pos c25] at H
                      have c25b0 : decide (1114111 < x7_2) = true := decide_eq_true c25
                      clear c25
                      simp only [Option.some.injEq, Prod.mk.injEq] at H
                      obtain ⟨rfl, rfl, rfl⟩ := H
                      go_wp2
                      go_ret3
                      exact ⟨by first | rfl | (simp; done) | (simp [*]; done), by repeat (first | exact Drawn0.refl _ | apply Drawn0.step)⟩
                    · rw [if_neg c25] at H
                      have c25b0 : decide (1114111 < x7_2) = false := decide_eq_false c25
                      clear c25
                      replace H := Option.bind_eq_some_iff.mp H
                      obtain ⟨t101, A260, H⟩ := H
                      replace H : (if t101 = true then (some (65533, 1, false)) else ((spec_low.f x7_2).bind fun t102 => (if t102 = true then (some (65533, 1, false)) else (some (x7_2, wrap64 (x8_5 + 1), true))))) = some (r1, r2, r3) := H
                      have A26 := Aside0.mk A260
                      clear A260
                      by_cases c27 : t101 = true
                      · subst c27
                        have H1 : (some (65533, 1, false)) = some (r1, r2, r3) := by rw [if_pos rfl] at H; exact H
                        clear H
                        have H := H1
                        clear H1
                        simp only [Option.some.injEq, Prod.mk.injEq] at H
                        obtain ⟨rfl, rfl, rfl⟩ := H
                        go_wp2_with (first | (go_at_call 21; (with_reducible refine (spec_high.calls x7_2 true _ A26.out).mono ?_); rintro e w' ⟨rfl, ⟨nd, rfl⟩⟩))
                        go_ret3
                        exact ⟨by first | rfl | (simp; done) | (simp [*]; done), by repeat (first | exact Drawn0.refl _ | apply Drawn0.step)⟩
                      · replace c27 := Bool.eq_false_iff.mpr c27
                        subst c27
                        have H1 : ((spec_low.f x7_2).bind fun t102 => (if t102 = true then (some (65533, 1, false)) else (some (x7_2, wrap64 (x8_5 + 1), true)))) = some (r1, r2, r3) := by rw [if_neg (show ¬ (false = true) by decide)] at H; exact H
                        clear H
                        have H := H1
                        clear H1
                        replace H := Option.bind_eq_some_iff.mp H
                        obtain ⟨t102, A280, H⟩ := H
                        replace H : (if t102 = true then (some (65533, 1, false)) else (some (x7_2, wrap64 (x8_5 + 1), true))) = some (r1, r2, r3) := H
                        have A28 := Aside0.mk A280
                        clear A280
                        by_cases c29 : t102 = true
                        · subst c29
                          have H1 : (some (65533, 1, false)) = some (r1, r2, r3) := by rw [if_pos rfl] at H; exact H
                          clear H
                          have H := H1
                          clear H1
                          simp only [Option.some.injEq, Prod.mk.injEq] at H
                          obtain ⟨rfl, rfl, rfl⟩ := H
                          go_wp2_with (first | (go_at_call 21; (with_reducible refine (spec_high.calls x7_2 false _ A26.out).mono ?_); rintro e w' ⟨rfl, ⟨nd, rfl⟩⟩) | (go_at_call 22; (with_reducible refine (spec_low.calls x7_2 true _ A28.out).mono ?_); rintro e w' ⟨rfl, ⟨nd, rfl⟩⟩))
                          go_ret3
                          exact ⟨by first | rfl | (simp; done) | (simp [*]; done), by repeat (first | exact Drawn0.refl _ | apply Drawn0.step)⟩
                        · replace c29 := Bool.eq_false_iff.mpr c29
                          subst c29
                          have H1 : (some (x7_2, wrap64 (x8_5 + 1), true)) = some (r1, r2, r3) := by rw [if_neg (show ¬ (false = true) by decide)] at H; exact H
                          clear H
                          have H := H1
                          clear H1
                          simp only [Option.some.injEq, Prod.mk.injEq] at H
                          obtain ⟨rfl, rfl, rfl⟩ := H
                          go_wp2_with (first | (go_at_call 21; (with_reducible refine (spec_high.calls x7_2 false _ A26.out).mono ?_); rintro e w' ⟨rfl, ⟨nd, rfl⟩⟩) | (go_at_call 22; (with_reducible refine (spec_low.calls x7_2 false _ A28.out).mono ?_); rintro e w' ⟨rfl, ⟨nd, rfl⟩⟩))
                          go_ret3
                          exact ⟨by first | rfl | (simp; done) | (simp [*]; done), by repeat (first | exact Drawn0.refl _ | apply Drawn0.step)⟩
    · rw [if_neg c4] at H
      exact absurd H (by simp)
  · rw [if_neg c3] at H
    exact absurd H (by simp)


/-! ### spec_UTF8: function 11 -/
def spec_UTF8.l0 : Nat → ByteArray → Int → Option (Bool)
  | 0, _, _ => none
  | k + 1, x0, x3 => if x3 < (x0.size : Int) then ((spec_Character.f k x0 x3).bind fun bt103 => (if bt103.2.2 = true then (spec_UTF8.l0 k x0 (wrap64 (x3 + bt103.2.1))) else (some false))) else (some true)
def spec_UTF8.f (k : Nat) (a0 : ByteArray) : Option (Bool) := spec_UTF8.l0 k a0 0
theorem spec_UTF8.mono_l : ∀ k, (∀ y0 y1, LeO (spec_UTF8.l0 k y0 y1) (spec_UTF8.l0 (k + 1) y0 y1))
  | 0 => fun _ _ r h => by simp [spec_UTF8.l0] at h
  | k + 1 => by
    have ih0 := spec_UTF8.mono_l k
    · intro y0 y1
      unfold spec_UTF8.l0
      repeat' first
      | (with_reducible exact ih0 _ _)
      | (with_reducible exact spec_Character.mono _ _ _)
      | (with_reducible exact LeO.refl _)
      | (with_reducible exact LeO.none _)
      | (with_reducible refine LeO.ite ?_ ?_)
      | (with_reducible refine LeO.bind ?_ (fun _ => ?_))
      | exact ih0 _ _
      | exact spec_Character.mono _ _ _
      | exact LeO.none _
      | refine LeO.ite ?_ ?_
      | refine LeO.bind ?_ (fun _ => ?_)
theorem spec_UTF8.mono : ∀ a0 k, LeO (spec_UTF8.f k a0) (spec_UTF8.f (k + 1) a0) := by
  intro a0 k
  have ih0 := spec_UTF8.mono_l k
  unfold spec_UTF8.f
  repeat' first
      | (with_reducible exact ih0 _ _)
      | (with_reducible exact spec_Character.mono _ _ _)
      | (with_reducible exact LeO.refl _)
      | (with_reducible exact LeO.none _)
      | (with_reducible refine LeO.ite ?_ ?_)
      | (with_reducible refine LeO.bind ?_ (fun _ => ?_))
      | exact ih0 _ _
      | exact spec_Character.mono _ _ _
      | exact LeO.none _
      | refine LeO.ite ?_ ?_
      | refine LeO.bind ?_ (fun _ => ?_)
set_option maxHeartbeats 8000000 in
set_option maxRecDepth 100000 in
theorem spec_UTF8.calls (k : Nat) (a0 : ByteArray) (r : Bool) (w : World) (h : spec_UTF8.f k a0 = some r) :
    Calls Tryd.prog 11 #[.string a0] w fun e w' => e = .returned (.bool r) ∧ Drawn0 w w' := by
  have H : (spec_UTF8.l0 k a0 0) = some r := h
  clear h
  have H' := Aside0.mk H
  clear H
  go_enter Tryd.func11, Tryd.ntmps11
  go_wp2
  (try simp only [Act.put, List.setIfInBounds_toArray, List.set_cons_zero, List.set_cons_succ])
  go_loopg [3] k (fun kq v3 w' => ∃ (x3_1 : Int), v3 = .int .i64 x3_1 ∧ Aside0 (spec_UTF8.l0 kq a0 x3_1 = some r) ∧ Aside0 (kq ≤ k) ∧ Drawn0 w w')
  case atStart => exact ⟨(0), (by first | rfl | (simp; done) | (simp [*]; done)), H', ⟨Nat.le_refl _⟩, by repeat (first | exact Drawn0.refl _ | apply Drawn0.step)⟩
  case round =>
    clear H'
    try clear c1
    obtain ⟨x3_1, rfl, HA, HK1, ⟨m1, rfl⟩⟩ := hrel
    cases gk with
    | zero => exact absurd HA.out (by simp [spec_UTF8.l0])
    | succ k1 =>
      have H := HA.out
      clear HA
      simp only [spec_UTF8.l0] at H
      by_cases c2 : x3_1 < (a0.size : Int)
      · rw [if_pos c2] at H
        have c2b0 : decide (x3_1 < (a0.size : Int)) = true := decide_eq_true c2
        clear c2
        replace H := Option.bind_eq_some_iff.mp H
        obtain ⟨⟨t103, t104, t105⟩, A30, H⟩ := H
        replace H : (if t105 = true then (spec_UTF8.l0 k1 a0 (wrap64 (x3_1 + t104))) else (some false)) = some r := H
        have A3 := Aside0.mk A30
        clear A30
        by_cases c4 : t105 = true
        · subst c4
          have H1 : (spec_UTF8.l0 k1 a0 (wrap64 (x3_1 + t104))) = some r := by rw [if_pos rfl] at H; exact H
          clear H
          have H := H1
          clear H1
          have H' := Aside0.mk H
          clear H
          go_wp2_with (first | ((with_reducible refine gate_callee (f := 19) rfl ?_); refine goesL_ (some 14) rfl rfl Tryd.func19 (by kernel_rfl) rfl #[.string a0, .int .i64 x3_1] rfl (by (try simp only [List.map_toArray, List.map_cons, List.map_nil]); first | done | rfl | (simp only [List.length_drop, List.length_take]; rfl)) ?_; (with_reducible refine (spec_Character.calls k1 a0 x3_1 t103 t104 true _ A3.out).mono ?_); rintro e w' ⟨rfl, ⟨nd, rfl⟩⟩; refine ⟨_, rfl, ?_⟩))
          go_roundg k1
          case measure => have := HK1.out; omega
          case rel => exact ⟨(wrap64 (x3_1 + t104)), (by first | rfl | (simp; done) | (simp [*]; done)), H', ⟨by have := HK1.out; omega⟩, by repeat (first | exact Drawn0.refl _ | apply Drawn0.step)⟩
        · replace c4 := Bool.eq_false_iff.mpr c4
          subst c4
          have H1 : (some false) = some r := by rw [if_neg (show ¬ (false = true) by decide)] at H; exact H
          clear H
          have H := H1
          clear H1
          obtain rfl := Option.some.inj H
          go_wp2_with (first | ((with_reducible refine gate_callee (f := 19) rfl ?_); refine goesL_ (some 14) rfl rfl Tryd.func19 (by kernel_rfl) rfl #[.string a0, .int .i64 x3_1] rfl (by (try simp only [List.map_toArray, List.map_cons, List.map_nil]); first | done | rfl | (simp only [List.length_drop, List.length_take]; rfl)) ?_; (with_reducible refine (spec_Character.calls k1 a0 x3_1 t103 t104 false _ A3.out).mono ?_); rintro e w' ⟨rfl, ⟨nd, rfl⟩⟩; refine ⟨_, rfl, ?_⟩))
          go_ret
          exact ⟨by first | rfl | (simp; done) | (simp [*]; done), by repeat (first | exact Drawn0.refl _ | apply Drawn0.step)⟩
      · rw [if_neg c2] at H
        have c2b0 : decide (x3_1 < (a0.size : Int)) = false := decide_eq_false c2
        clear c2
        obtain rfl := Option.some.inj H
        go_wp2
        go_ret
        exact ⟨by first | rfl | (simp; done) | (simp [*]; done), by repeat (first | exact Drawn0.refl _ | apply Drawn0.step)⟩


/-! ### spec_hexDigit: function 38 -/
mutual
def spec_hexDigit.j0 : Nat → Int → Bool → Option (Int × Bool)
  | 0, _, _ => none
  | k + 1, x0, x4 => if x4 = true then (some ((x0 - 48) % 256, true)) else (if 97 ≤ x0 then (spec_hexDigit.j1 k x0 (decide (x0 ≤ 102))) else (spec_hexDigit.j1 k x0 false))
def spec_hexDigit.j1 : Nat → Int → Bool → Option (Int × Bool)
  | 0, _, _ => none
  | k + 1, x0, x14 => if x14 = true then (some (((x0 - 97) % 256) + 10, true)) else (if 65 ≤ x0 then (if x0 ≤ 70 then (some (((x0 - 65) % 256) + 10, true)) else (some (0, false))) else (some (0, false)))
end
def spec_hexDigit.f (k : Nat) (a0 : Int) : Option (Int × Bool) := if 48 ≤ a0 then (spec_hexDigit.j0 k a0 (decide (a0 ≤ 57))) else (spec_hexDigit.j0 k a0 false)
theorem spec_hexDigit.mono_l : ∀ k, (∀ y0 y1, LeO (spec_hexDigit.j0 k y0 y1) (spec_hexDigit.j0 (k + 1) y0 y1)) ∧ (∀ y0 y1, LeO (spec_hexDigit.j1 k y0 y1) (spec_hexDigit.j1 (k + 1) y0 y1))
  | 0 => ⟨fun _ _ r h => by simp [spec_hexDigit.j0] at h, fun _ _ r h => by simp [spec_hexDigit.j1] at h⟩
  | k + 1 => by
    obtain ⟨ih0, ih1⟩ := spec_hexDigit.mono_l k
    refine ⟨?_, ?_⟩
    · intro y0 y1
      unfold spec_hexDigit.j0
      repeat' first
      | (with_reducible exact ih0 _ _)
      | (with_reducible exact ih1 _ _)
      | (with_reducible exact LeO.refl _)
      | (with_reducible exact LeO.none _)
      | (with_reducible refine LeO.ite ?_ ?_)
      | (with_reducible refine LeO.bind ?_ (fun _ => ?_))
      | exact ih0 _ _
      | exact ih1 _ _
      | exact LeO.none _
      | refine LeO.ite ?_ ?_
      | refine LeO.bind ?_ (fun _ => ?_)
    · intro y0 y1
      unfold spec_hexDigit.j1
      repeat' first
      | (with_reducible exact ih0 _ _)
      | (with_reducible exact ih1 _ _)
      | (with_reducible exact LeO.refl _)
      | (with_reducible exact LeO.none _)
      | (with_reducible refine LeO.ite ?_ ?_)
      | (with_reducible refine LeO.bind ?_ (fun _ => ?_))
      | exact ih0 _ _
      | exact ih1 _ _
      | exact LeO.none _
      | refine LeO.ite ?_ ?_
      | refine LeO.bind ?_ (fun _ => ?_)
theorem spec_hexDigit.mono : ∀ a0 k, LeO (spec_hexDigit.f k a0) (spec_hexDigit.f (k + 1) a0) := by
  intro a0 k
  obtain ⟨ih0, ih1⟩ := spec_hexDigit.mono_l k
  unfold spec_hexDigit.f
  repeat' first
      | (with_reducible exact ih0 _ _)
      | (with_reducible exact ih1 _ _)
      | (with_reducible exact LeO.refl _)
      | (with_reducible exact LeO.none _)
      | (with_reducible refine LeO.ite ?_ ?_)
      | (with_reducible refine LeO.bind ?_ (fun _ => ?_))
      | exact ih0 _ _
      | exact ih1 _ _
      | exact LeO.none _
      | refine LeO.ite ?_ ?_
      | refine LeO.bind ?_ (fun _ => ?_)
set_option maxHeartbeats 8000000 in
set_option maxRecDepth 100000 in
theorem spec_hexDigit.calls (k : Nat) (a0 : Int) (r1 : Int) (r2 : Bool) (w : World) (h : spec_hexDigit.f k a0 = some (r1, r2)) :
    Calls Tryd.prog 38 #[.int .u8 a0] w fun e w' => e = .returned (.tuple #[.int .i64 r1, .bool r2]) ∧ Drawn0 w w' := by
  have H : (if 48 ≤ a0 then (spec_hexDigit.j0 k a0 (decide (a0 ≤ 57))) else (spec_hexDigit.j0 k a0 false)) = some (r1, r2) := h
  clear h
  have HC2 := Aside0.mk H
  clear H
  go_enter Tryd.func38, Tryd.ntmps38
  go_upto_region 1 with (fail)
  go_cut [4] (fun v4 wc => ∃ (kq : Nat) (x4_1 : Bool), v4 = .bool x4_1 ∧ Aside0 (spec_hexDigit.j0 kq a0 x4_1 = some (r1, r2)) ∧ Aside0 (kq ≤ k) ∧ Drawn0 w wc)
  case first =>
    have H := HC2.out
    clear HC2
    by_cases c3 : 48 ≤ a0
    · rw [if_pos c3] at H
      have c3b0 : decide (48 ≤ a0) = true := decide_eq_true c3
      clear c3
      (first | rw [c3b0] | (simp only [i64_w, i32_w]; rw [c3b0]) | skip)
      have H' := Aside0.mk H
      clear H
      go_wp2
      (first | go_meet)
      case rel => exact ⟨_, (decide (a0 ≤ 57)), (by first | rfl | (simp; done) | (simp [*]; done)), H', ⟨by first | omega | exact Nat.le_refl _⟩, by repeat (first | exact Drawn0.refl _ | apply Drawn0.step)⟩
    · rw [if_neg c3] at H
      have c3b0 : decide (48 ≤ a0) = false := decide_eq_false c3
      clear c3
      (first | rw [c3b0] | (simp only [i64_w, i32_w]; rw [c3b0]) | skip)
      have H' := Aside0.mk H
      clear H
      go_wp2
      (first | go_meet)
      case rel => exact ⟨_, (false), (by first | rfl | (simp; done) | (simp [*]; done)), H', ⟨by first | omega | exact Nat.le_refl _⟩, by repeat (first | exact Drawn0.refl _ | apply Drawn0.step)⟩
  case rest =>
    clear HC2
    try clear p2
    try clear c3
    try clear c3b0
    obtain ⟨kq, x4_1, rfl, HA, HJ1, ⟨mc1, rfl⟩⟩ := hcut
    cases kq with
    | zero => exact absurd HA.out (by simp [spec_hexDigit.j0])
    | succ kj1 =>
      have H := HA.out
      clear HA
      simp only [spec_hexDigit.j0] at H
      by_cases c4 : x4_1 = true
      · subst c4
        have H1 : (some ((a0 - 48) % 256, true)) = some (r1, r2) := by rw [if_pos rfl] at H; exact H
        clear H
        have H := H1
        clear H1
        simp only [Option.some.injEq, Prod.mk.injEq] at H
        obtain ⟨rfl, rfl⟩ := H
        go_wp2
        go_ret2
        exact ⟨by first | rfl | (simp; done) | (simp [*]; done), by repeat (first | exact Drawn0.refl _ | apply Drawn0.step)⟩
      · replace c4 := Bool.eq_false_iff.mpr c4
        subst c4
        have H1 : (if 97 ≤ a0 then (spec_hexDigit.j1 kj1 a0 (decide (a0 ≤ 102))) else (spec_hexDigit.j1 kj1 a0 false)) = some (r1, r2) := by rw [if_neg (show ¬ (false = true) by decide)] at H; exact H
        clear H
        have H := H1
        clear H1
        have HC5 := Aside0.mk H
        clear H
        go_upto_region 3 with (fail)
        go_cut [14] (fun v14 wc => ∃ (kq : Nat) (x14_4 : Bool), v14 = .bool x14_4 ∧ Aside0 (spec_hexDigit.j1 kq a0 x14_4 = some (r1, r2)) ∧ Aside0 (kq ≤ kj1) ∧ Drawn0 w wc)
        case first =>
          have H := HC5.out
          clear HC5
          by_cases c6 : 97 ≤ a0
          · rw [if_pos c6] at H
            have c6b0 : decide (97 ≤ a0) = true := decide_eq_true c6
            clear c6
            (first | rw [c6b0] | (simp only [i64_w, i32_w]; rw [c6b0]) | skip)
            have H' := Aside0.mk H
            clear H
            go_wp2
            (first | go_meet)
            case rel => exact ⟨_, (decide (a0 ≤ 102)), (by first | rfl | (simp; done) | (simp [*]; done)), H', ⟨by have := HJ1.out; first | omega | exact Nat.le_refl _⟩, by repeat (first | exact Drawn0.refl _ | apply Drawn0.step)⟩
          · rw [if_neg c6] at H
            have c6b0 : decide (97 ≤ a0) = false := decide_eq_false c6
            clear c6
            (first | rw [c6b0] | (simp only [i64_w, i32_w]; rw [c6b0]) | skip)
            have H' := Aside0.mk H
            clear H
            go_wp2
            (first | go_meet)
            case rel => exact ⟨_, (false), (by first | rfl | (simp; done) | (simp [*]; done)), H', ⟨by have := HJ1.out; first | omega | exact Nat.le_refl _⟩, by repeat (first | exact Drawn0.refl _ | apply Drawn0.step)⟩
        case rest =>
          clear HC5
          try clear c1
          try clear p2
          try clear c3
          try clear c3b0
          try clear c4
          try clear c6
          try clear c6b0
          try clear p2
          obtain ⟨kq, x14_4, rfl, HA, HJ4, ⟨mc4, rfl⟩⟩ := hcut
          cases kq with
          | zero => exact absurd HA.out (by simp [spec_hexDigit.j1])
          | succ kj4 =>
            have H := HA.out
            clear HA
            simp only [spec_hexDigit.j1] at H
            by_cases c7 : x14_4 = true
            · subst c7
              have H1 : (some (((a0 - 97) % 256) + 10, true)) = some (r1, r2) := by rw [if_pos rfl] at H; exact H
              clear H
              have H := H1
              clear H1
              simp only [Option.some.injEq, Prod.mk.injEq] at H
              obtain ⟨rfl, rfl⟩ := H
              go_wp2
              go_ret2
              exact ⟨by first | rfl | (simp; done) | (simp [*]; done), by repeat (first | exact Drawn0.refl _ | apply Drawn0.step)⟩
            · replace c7 := Bool.eq_false_iff.mpr c7
              subst c7
              have H1 : (if 65 ≤ a0 then (if a0 ≤ 70 then (some (((a0 - 65) % 256) + 10, true)) else (some (0, false))) else (some (0, false))) = some (r1, r2) := by rw [if_neg (show ¬ (false = true) by decide)] at H; exact H
              clear H
              have H := H1
              clear H1
              by_cases c8 : 65 ≤ a0
              · rw [if_pos c8] at H
                have c8b0 : decide (65 ≤ a0) = true := decide_eq_true c8
                clear c8
                by_cases c9 : a0 ≤ 70
                · rw [if_pos c9] at H
                  have c9b0 : decide (a0 ≤ 70) = true := decide_eq_true c9
                  clear c9
                  simp only [Option.some.injEq, Prod.mk.injEq] at H
                  obtain ⟨rfl, rfl⟩ := H
                  go_wp2
                  go_ret2
                  exact ⟨by first | rfl | (simp; done) | (simp [*]; done), by repeat (first | exact Drawn0.refl _ | apply Drawn0.step)⟩
                · rw [if_neg c9] at H
                  have c9b0 : decide (a0 ≤ 70) = false := decide_eq_false c9
                  clear c9
                  simp only [Option.some.injEq, Prod.mk.injEq] at H
                  obtain ⟨rfl, rfl⟩ := H
                  go_wp2
                  go_ret2
                  exact ⟨by first | rfl | (simp; done) | (simp [*]; done), by repeat (first | exact Drawn0.refl _ | apply Drawn0.step)⟩
              · rw [if_neg c8] at H
                have c8b0 : decide (65 ≤ a0) = false := decide_eq_false c8
                clear c8
                simp only [Option.some.injEq, Prod.mk.injEq] at H
                obtain ⟨rfl, rfl⟩ := H
                go_wp2
                go_ret2
                exact ⟨by first | rfl | (simp; done) | (simp [*]; done), by repeat (first | exact Drawn0.refl _ | apply Drawn0.step)⟩


/-! ### spec_unit: function 20 -/
mutual
def spec_unit.j0 : Nat → ByteArray → Int → Bool → Option (Int × Bool)
  | 0, _, _, _ => none
  | k + 1, x0, x1, x27 => if x27 = true then (some (0, false)) else (spec_unit.l0 k x0 x1 0 (wrap64 (x1 + 2)))
def spec_unit.l0 : Nat → ByteArray → Int → Int → Int → Option (Int × Bool)
  | 0, _, _, _, _ => none
  | k + 1, x0, x1, x6, x7 => if x7 < (wrap64 (x1 + 6)) then (if 0 ≤ x7 then (if x7 < (x0.size : Int) then ((spec_hexDigit.f k (bt x0 x7)).bind fun bt106 => (if bt106.2 = true then (spec_unit.l0 k x0 x1 (wrap64 ((wrap64 (x6 * 16)) + bt106.1)) (wrap64 (x7 + 1))) else (some (0, false)))) else (none)) else (none)) else (some (x6, true))
end
def spec_unit.f (k : Nat) (a0 : ByteArray) (a1 : Int) : Option (Int × Bool) := if (wrap64 ((a0.size : Int) - a1)) < 6 then (spec_unit.j0 k a0 a1 true) else (if 0 ≤ a1 then (if a1 < (a0.size : Int) then (if (bt a0 a1) = 92 then (if 0 ≤ (wrap64 (a1 + 1)) then (if (wrap64 (a1 + 1)) < (a0.size : Int) then (spec_unit.j0 k a0 a1 ((bt a0 (wrap64 (a1 + 1))) != 117)) else (none)) else (none)) else (spec_unit.j0 k a0 a1 true)) else (none)) else (none))
theorem spec_unit.mono_l : ∀ k, (∀ y0 y1 y2, LeO (spec_unit.j0 k y0 y1 y2) (spec_unit.j0 (k + 1) y0 y1 y2)) ∧ (∀ y0 y1 y2 y3, LeO (spec_unit.l0 k y0 y1 y2 y3) (spec_unit.l0 (k + 1) y0 y1 y2 y3))
  | 0 => ⟨fun _ _ _ r h => by simp [spec_unit.j0] at h, fun _ _ _ _ r h => by simp [spec_unit.l0] at h⟩
  | k + 1 => by
    obtain ⟨ih0, ih1⟩ := spec_unit.mono_l k
    refine ⟨?_, ?_⟩
    · intro y0 y1 y2
      unfold spec_unit.j0
      repeat' first
      | (with_reducible exact ih0 _ _ _)
      | (with_reducible exact ih1 _ _ _ _)
      | (with_reducible exact spec_hexDigit.mono _ _)
      | (with_reducible exact LeO.refl _)
      | (with_reducible exact LeO.none _)
      | (with_reducible refine LeO.ite ?_ ?_)
      | (with_reducible refine LeO.bind ?_ (fun _ => ?_))
      | exact ih0 _ _ _
      | exact ih1 _ _ _ _
      | exact spec_hexDigit.mono _ _
      | exact LeO.none _
      | refine LeO.ite ?_ ?_
      | refine LeO.bind ?_ (fun _ => ?_)
    · intro y0 y1 y2 y3
      unfold spec_unit.l0
      repeat' first
      | (with_reducible exact ih0 _ _ _)
      | (with_reducible exact ih1 _ _ _ _)
      | (with_reducible exact spec_hexDigit.mono _ _)
      | (with_reducible exact LeO.refl _)
      | (with_reducible exact LeO.none _)
      | (with_reducible refine LeO.ite ?_ ?_)
      | (with_reducible refine LeO.bind ?_ (fun _ => ?_))
      | exact ih0 _ _ _
      | exact ih1 _ _ _ _
      | exact spec_hexDigit.mono _ _
      | exact LeO.none _
      | refine LeO.ite ?_ ?_
      | refine LeO.bind ?_ (fun _ => ?_)
theorem spec_unit.mono : ∀ a0 a1 k, LeO (spec_unit.f k a0 a1) (spec_unit.f (k + 1) a0 a1) := by
  intro a0 a1 k
  obtain ⟨ih0, ih1⟩ := spec_unit.mono_l k
  unfold spec_unit.f
  repeat' first
      | (with_reducible exact ih0 _ _ _)
      | (with_reducible exact ih1 _ _ _ _)
      | (with_reducible exact spec_hexDigit.mono _ _)
      | (with_reducible exact LeO.refl _)
      | (with_reducible exact LeO.none _)
      | (with_reducible refine LeO.ite ?_ ?_)
      | (with_reducible refine LeO.bind ?_ (fun _ => ?_))
      | exact ih0 _ _ _
      | exact ih1 _ _ _ _
      | exact spec_hexDigit.mono _ _
      | exact LeO.none _
      | refine LeO.ite ?_ ?_
      | refine LeO.bind ?_ (fun _ => ?_)
set_option maxHeartbeats 8000000 in
set_option maxRecDepth 100000 in
theorem spec_unit.calls (k : Nat) (a0 : ByteArray) (a1 : Int) (r1 : Int) (r2 : Bool) (w : World) (h : spec_unit.f k a0 a1 = some (r1, r2)) :
    Calls Tryd.prog 20 #[.string a0, .int .i64 a1] w fun e w' => e = .returned (.tuple #[.int .i64 r1, .bool r2]) ∧ Drawn0 w w' := by
  have H : (if (wrap64 ((a0.size : Int) - a1)) < 6 then (spec_unit.j0 k a0 a1 true) else (if 0 ≤ a1 then (if a1 < (a0.size : Int) then (if (bt a0 a1) = 92 then (if 0 ≤ (wrap64 (a1 + 1)) then (if (wrap64 (a1 + 1)) < (a0.size : Int) then (spec_unit.j0 k a0 a1 ((bt a0 (wrap64 (a1 + 1))) != 117)) else (none)) else (none)) else (spec_unit.j0 k a0 a1 true)) else (none)) else (none))) = some (r1, r2) := h
  clear h
  have HC3 := Aside0.mk H
  clear H
  go_enter Tryd.func20, Tryd.ntmps20
  go_upto_region 1 with (fail)
  go_cut [27] (fun v27 wc => ∃ (kq : Nat) (x27_2 : Bool), v27 = .bool x27_2 ∧ Aside0 (spec_unit.j0 kq a0 a1 x27_2 = some (r1, r2)) ∧ Aside0 (kq ≤ k) ∧ Drawn0 w wc)
  case first =>
    have H := HC3.out
    clear HC3
    by_cases c4 : (wrap64 ((a0.size : Int) - a1)) < 6
    · rw [if_pos c4] at H
      have c4b0 : decide ((wrap64 ((a0.size : Int) - a1)) < 6) = true := decide_eq_true c4
      clear c4
      (first | rw [c4b0] | (simp only [i64_w, i32_w]; rw [c4b0]) | skip)
      have H' := Aside0.mk H
      clear H
      go_wp2
      (first | go_meet)
      case rel => exact ⟨_, (true), (by first | rfl | (simp; done) | (simp [*]; done)), H', ⟨by first | omega | exact Nat.le_refl _⟩, by repeat (first | exact Drawn0.refl _ | apply Drawn0.step)⟩
    · rw [if_neg c4] at H
      have c4b0 : decide ((wrap64 ((a0.size : Int) - a1)) < 6) = false := decide_eq_false c4
      clear c4
      (first | rw [c4b0] | (simp only [i64_w, i32_w]; rw [c4b0]) | skip)
      by_cases c5 : 0 ≤ a1
      · rw [if_pos c5] at H
        have c5b0 : decide (0 ≤ a1) = true := decide_eq_true c5
        clear c5
        by_cases c6 : a1 < (a0.size : Int)
        · rw [if_pos c6] at H
          have c6b0 : decide (a1 < (a0.size : Int)) = true := decide_eq_true c6
          clear c6
          by_cases c8 : (bt a0 a1) = 92
          · rw [if_pos c8] at H
            have c8b0 : ((bt a0 a1) == 92) = true := beq_iff_eq.mpr c8
            have c8b1 : ((bt a0 a1) != 92) = false := bne_eq_false_iff_eq.mpr c8
            clear c8
            obtain ⟨ji9, hji9⟩ : ∃ j_ : Int, (wrap64 (a1 + 1)) = j_ := ⟨_, rfl⟩
            replace H : (if 0 ≤ (ji9) then (if (ji9) < (a0.size : Int) then (spec_unit.j0 k a0 a1 ((bt a0 (ji9)) != 117)) else (none)) else (none)) = some (r1, r2) := by first | (rw [hji9] at H; exact H) | (simp only [hji9] at H ⊢; exact H)
            have hji9w : (IntKind.i64.wrap (a1 + 1)) = ji9 := (i64_w _).trans hji9
            by_cases c10 : 0 ≤ (ji9)
            · rw [if_pos c10] at H
              have c10b0 : decide (0 ≤ (ji9)) = true := decide_eq_true c10
              clear c10
              by_cases c11 : (ji9) < (a0.size : Int)
              · rw [if_pos c11] at H
                have c11b0 : decide ((ji9) < (a0.size : Int)) = true := decide_eq_true c11
                clear c11
                have H' := Aside0.mk H
                clear H
                have p7 : 0 ≤ (a1 : Int) := of_decide_eq_true (by first | (with_reducible assumption) | assumption)
                have q7 : a1 < (a0.size : Int) := of_decide_eq_true (by first | (with_reducible assumption) | assumption)
                have hx7 := bt_at a0 a1
                replace p7 := eq_true p7
                replace q7 := eq_true q7
                have p12 : 0 ≤ ((ji9) : Int) := of_decide_eq_true (by first | (with_reducible assumption) | assumption)
                have q12 : (ji9) < (a0.size : Int) := of_decide_eq_true (by first | (with_reducible assumption) | assumption)
                have hx12 := bt_at a0 (ji9)
                replace p12 := eq_true p12
                replace q12 := eq_true q12
                go_wp2
                (first | go_meet | (rw [← c8b0]; go_meet))
                case rel => exact ⟨_, (((bt a0 (ji9)) != 117)), (by first | rfl | (simp; done) | (simp only [← hji9] <;> (first | rfl | (simp; done))) | (simp [*]; done) | (simp only [*]; done)), H', ⟨by first | omega | exact Nat.le_refl _⟩, by repeat (first | exact Drawn0.refl _ | apply Drawn0.step)⟩
              · rw [if_neg c11] at H
                exact absurd H (by simp)
            · rw [if_neg c10] at H
              exact absurd H (by simp)
          · rw [if_neg c8] at H
            have c8b0 : ((bt a0 a1) == 92) = false := beq_eq_false_iff_ne.mpr c8
            have c8b1 : ((bt a0 a1) != 92) = true := bne_iff_ne.mpr c8
            have H' := Aside0.mk H
            clear H
            have p7 : 0 ≤ (a1 : Int) := of_decide_eq_true (by first | (with_reducible assumption) | assumption)
            have q7 : a1 < (a0.size : Int) := of_decide_eq_true (by first | (with_reducible assumption) | assumption)
            have hx7 := bt_at a0 a1
            replace p7 := eq_true p7
            replace q7 := eq_true q7
            go_wp2
            (first | go_meet | (rw [← c8b0]; go_meet))
            case rel => exact ⟨_, (true), (by first | rfl | (simp; done) | (simp [*]; done)), H', ⟨by first | omega | exact Nat.le_refl _⟩, by repeat (first | exact Drawn0.refl _ | apply Drawn0.step)⟩
        · rw [if_neg c6] at H
          exact absurd H (by simp)
      · rw [if_neg c5] at H
        exact absurd H (by simp)
  case rest =>
    clear HC3
    try clear c1
    try clear p1
    try clear q1
    try clear hx1
    try clear c2
    try clear p2
    try clear c4
    try clear c4b0
    try clear c5
    try clear c5b0
    try clear c6
    try clear c6b0
    try clear p6
    try clear p7
    try clear q7
    try clear hx7
    try clear c8
    try clear c8b0
    try clear c8b1
    try clear c10
    try clear c10b0
    try clear c11
    try clear c11b0
    try clear p12
    try clear q12
    try clear hx12
    try clear p12
    try clear p7
    try clear q12
    try clear q7
    obtain ⟨kq, x27_2, rfl, HA, HJ2, ⟨mc2, rfl⟩⟩ := hcut
    cases kq with
    | zero => exact absurd HA.out (by simp [spec_unit.j0])
    | succ kj2 =>
      have H := HA.out
      clear HA
      simp only [spec_unit.j0] at H
      by_cases c13 : x27_2 = true
      · subst c13
        have H1 : (some (0, false)) = some (r1, r2) := by rw [if_pos rfl] at H; exact H
        clear H
        have H := H1
        clear H1
        simp only [Option.some.injEq, Prod.mk.injEq] at H
        obtain ⟨rfl, rfl⟩ := H
        go_wp2
        go_ret2
        exact ⟨by first | rfl | (simp; done) | (simp [*]; done), by repeat (first | exact Drawn0.refl _ | apply Drawn0.step)⟩
      · replace c13 := Bool.eq_false_iff.mpr c13
        subst c13
        have H1 : (spec_unit.l0 kj2 a0 a1 0 (wrap64 (a1 + 2))) = some (r1, r2) := by rw [if_neg (show ¬ (false = true) by decide)] at H; exact H
        clear H
        have H := H1
        clear H1
        have H' := Aside0.mk H
        clear H
        go_wp2
        (try simp only [Act.put, List.setIfInBounds_toArray, List.set_cons_zero, List.set_cons_succ])
        go_loopg [6, 7] kj2 (fun kq v6 v7 w' => ∃ (x6_2 : Int) (x7_2 : Int), v6 = .int .i64 x6_2 ∧ v7 = .int .i64 x7_2 ∧ Aside0 (spec_unit.l0 kq a0 a1 x6_2 x7_2 = some (r1, r2)) ∧ Aside0 (kq ≤ kj2) ∧ Drawn0 w w')
        case atStart => exact ⟨(0), (wrap64 (a1 + 2)), (by first | rfl | (simp; done) | (simp [*]; done)), (by first | rfl | (simp; done) | (simp [*]; done)), H', ⟨Nat.le_refl _⟩, by repeat (first | exact Drawn0.refl _ | apply Drawn0.step)⟩
        case round =>
          clear H'
          try clear c1
          try clear p1
          try clear q1
          try clear hx1
          try clear c2
          try clear p2
          try clear c4
          try clear c4b0
          try clear c5
          try clear c5b0
          try clear c6
          try clear c6b0
          try clear p6
          try clear p7
          try clear q7
          try clear hx7
          try clear c8
          try clear c8b0
          try clear c8b1
          try clear c10
          try clear c10b0
          try clear c11
          try clear c11b0
          try clear p12
          try clear q12
          try clear hx12
          try clear c13
          try clear p1
          try clear p12
          try clear p2
          try clear p6
          try clear p7
          try clear q1
          try clear q12
          try clear q7
          obtain ⟨x6_2, x7_2, rfl, rfl, HA, HK2, ⟨m2, rfl⟩⟩ := hrel
          cases gk with
          | zero => exact absurd HA.out (by simp [spec_unit.l0])
          | succ k2 =>
            have H := HA.out
            clear HA
            simp only [spec_unit.l0] at H
            by_cases c14 : x7_2 < (wrap64 (a1 + 6))
            · rw [if_pos c14] at H
              have c14b0 : decide (x7_2 < (wrap64 (a1 + 6))) = true := decide_eq_true c14
              clear c14
              by_cases c15 : 0 ≤ x7_2
              · rw [if_pos c15] at H
                have c15b0 : decide (0 ≤ x7_2) = true := decide_eq_true c15
                clear c15
                by_cases c16 : x7_2 < (a0.size : Int)
                · rw [if_pos c16] at H
                  have c16b0 : decide (x7_2 < (a0.size : Int)) = true := decide_eq_true c16
                  clear c16
                  replace H := Option.bind_eq_some_iff.mp H
                  obtain ⟨⟨t106, t107⟩, A180, H⟩ := H
                  replace H : (if t107 = true then (spec_unit.l0 k2 a0 a1 (wrap64 ((wrap64 (x6_2 * 16)) + t106)) (wrap64 (x7_2 + 1))) else (some (0, false))) = some (r1, r2) := H
                  have A18 := Aside0.mk A180
                  clear A180
                  by_cases c19 : t107 = true
                  · subst c19
                    have H1 : (spec_unit.l0 k2 a0 a1 (wrap64 ((wrap64 (x6_2 * 16)) + t106)) (wrap64 (x7_2 + 1))) = some (r1, r2) := by rw [if_pos rfl] at H; exact H
                    clear H
                    have H := H1
                    clear H1
                    have H' := Aside0.mk H
                    clear H
                    have p17 : 0 ≤ (x7_2 : Int) := of_decide_eq_true (by first | (with_reducible assumption) | assumption)
                    have q17 : x7_2 < (a0.size : Int) := of_decide_eq_true (by first | (with_reducible assumption) | assumption)
                    have hx17 := bt_at a0 x7_2
                    replace p17 := eq_true p17
                    replace q17 := eq_true q17
                    go_wp2_with (first | ((with_reducible refine gate_callee (f := 38) rfl ?_); refine goesL_ (some 40) rfl rfl Tryd.func38 (by kernel_rfl) rfl #[.int .u8 (bt a0 x7_2)] rfl (by (try simp only [List.map_toArray, List.map_cons, List.map_nil]); first | done | rfl | (simp only [List.length_drop, List.length_take]; rfl)) ?_; (with_reducible refine (spec_hexDigit.calls k2 (bt a0 x7_2) t106 true _ A18.out).mono ?_); rintro e w' ⟨rfl, ⟨nd, rfl⟩⟩; refine ⟨_, rfl, ?_⟩))
                    go_roundg k2
                    case measure => have := HJ2.out; have := HK2.out; omega
                    case rel => exact ⟨(wrap64 ((wrap64 (x6_2 * 16)) + t106)), (wrap64 (x7_2 + 1)), (by first | rfl | (simp; done) | (simp [*]; done)), (by first | rfl | (simp; done) | (simp [*]; done)), H', ⟨by have := HJ2.out; have := HK2.out; omega⟩, by repeat (first | exact Drawn0.refl _ | apply Drawn0.step)⟩
                  · replace c19 := Bool.eq_false_iff.mpr c19
                    subst c19
                    have H1 : (some (0, false)) = some (r1, r2) := by rw [if_neg (show ¬ (false = true) by decide)] at H; exact H
                    clear H
                    have H := H1
                    clear H1
                    simp only [Option.some.injEq, Prod.mk.injEq] at H
                    obtain ⟨rfl, rfl⟩ := H
                    have p17 : 0 ≤ (x7_2 : Int) := of_decide_eq_true (by first | (with_reducible assumption) | assumption)
                    have q17 : x7_2 < (a0.size : Int) := of_decide_eq_true (by first | (with_reducible assumption) | assumption)
                    have hx17 := bt_at a0 x7_2
                    replace p17 := eq_true p17
                    replace q17 := eq_true q17
                    go_wp2_with (first | ((with_reducible refine gate_callee (f := 38) rfl ?_); refine goesL_ (some 40) rfl rfl Tryd.func38 (by kernel_rfl) rfl #[.int .u8 (bt a0 x7_2)] rfl (by (try simp only [List.map_toArray, List.map_cons, List.map_nil]); first | done | rfl | (simp only [List.length_drop, List.length_take]; rfl)) ?_; (with_reducible refine (spec_hexDigit.calls k2 (bt a0 x7_2) t106 false _ A18.out).mono ?_); rintro e w' ⟨rfl, ⟨nd, rfl⟩⟩; refine ⟨_, rfl, ?_⟩))
                    go_ret2
                    exact ⟨by first | rfl | (simp; done) | (simp [*]; done), by repeat (first | exact Drawn0.refl _ | apply Drawn0.step)⟩
                · rw [if_neg c16] at H
                  exact absurd H (by simp)
              · rw [if_neg c15] at H
                exact absurd H (by simp)
            · rw [if_neg c14] at H
              have c14b0 : decide (x7_2 < (wrap64 (a1 + 6))) = false := decide_eq_false c14
              clear c14
              simp only [Option.some.injEq, Prod.mk.injEq] at H
              obtain ⟨rfl, rfl⟩ := H
              go_wp2
              go_ret2
              exact ⟨by first | rfl | (simp; done) | (simp [*]; done), by repeat (first | exact Drawn0.refl _ | apply Drawn0.step)⟩


/-! ### spec_Paired: function 12 -/
def spec_Paired.l0 : Nat → ByteArray → Int → Option (Bool)
  | 0, _, _ => none
  | k + 1, x0, x3 => if x3 < (x0.size : Int) then (if 0 ≤ x3 then (if (bt x0 x3) = 92 then ((spec_unit.f k x0 x3).bind fun bt108 => (if bt108.2 = true then ((spec_high.f bt108.1).bind fun t110 => (if t110 = true then ((spec_unit.f k x0 (wrap64 (x3 + 6))).bind fun bt111 => (if bt111.2 = true then ((spec_low.f bt111.1).bind fun t113 => (if t113 = true then (spec_Paired.l0 k x0 (wrap64 (x3 + 12))) else (some false))) else (some false))) else ((spec_low.f bt108.1).bind fun t114 => (if t114 = true then (some false) else (spec_Paired.l0 k x0 (wrap64 (x3 + 6))))))) else (spec_Paired.l0 k x0 (wrap64 (x3 + 2))))) else (spec_Paired.l0 k x0 (wrap64 (x3 + 1)))) else (none)) else (some true)
def spec_Paired.f (k : Nat) (a0 : ByteArray) : Option (Bool) := spec_Paired.l0 k a0 0
theorem spec_Paired.mono_l : ∀ k, (∀ y0 y1, LeO (spec_Paired.l0 k y0 y1) (spec_Paired.l0 (k + 1) y0 y1))
  | 0 => fun _ _ r h => by simp [spec_Paired.l0] at h
  | k + 1 => by
    have ih0 := spec_Paired.mono_l k
    · intro y0 y1
      unfold spec_Paired.l0
      repeat' first
      | (with_reducible exact ih0 _ _)
      | (with_reducible exact spec_unit.mono _ _ _)
      | (with_reducible exact LeO.refl _)
      | (with_reducible exact LeO.none _)
      | (with_reducible refine LeO.ite ?_ ?_)
      | (with_reducible refine LeO.bind ?_ (fun _ => ?_))
      | exact ih0 _ _
      | exact spec_unit.mono _ _ _
      | exact LeO.none _
      | refine LeO.ite ?_ ?_
      | refine LeO.bind ?_ (fun _ => ?_)
theorem spec_Paired.mono : ∀ a0 k, LeO (spec_Paired.f k a0) (spec_Paired.f (k + 1) a0) := by
  intro a0 k
  have ih0 := spec_Paired.mono_l k
  unfold spec_Paired.f
  repeat' first
      | (with_reducible exact ih0 _ _)
      | (with_reducible exact spec_unit.mono _ _ _)
      | (with_reducible exact LeO.refl _)
      | (with_reducible exact LeO.none _)
      | (with_reducible refine LeO.ite ?_ ?_)
      | (with_reducible refine LeO.bind ?_ (fun _ => ?_))
      | exact ih0 _ _
      | exact spec_unit.mono _ _ _
      | exact LeO.none _
      | refine LeO.ite ?_ ?_
      | refine LeO.bind ?_ (fun _ => ?_)
set_option maxHeartbeats 8000000 in
set_option maxRecDepth 100000 in
theorem spec_Paired.calls (k : Nat) (a0 : ByteArray) (r : Bool) (w : World) (h : spec_Paired.f k a0 = some r) :
    Calls Tryd.prog 12 #[.string a0] w fun e w' => e = .returned (.bool r) ∧ Drawn0 w w' := by
  have H : (spec_Paired.l0 k a0 0) = some r := h
  clear h
  have H' := Aside0.mk H
  clear H
  go_enter Tryd.func12, Tryd.ntmps12
  go_wp2
  (try simp only [Act.put, List.setIfInBounds_toArray, List.set_cons_zero, List.set_cons_succ])
  go_loopg [3] k (fun kq v3 w' => ∃ (x3_1 : Int), v3 = .int .i64 x3_1 ∧ Aside0 (spec_Paired.l0 kq a0 x3_1 = some r) ∧ Aside0 (kq ≤ k) ∧ Drawn0 w w')
  case atStart => exact ⟨(0), (by first | rfl | (simp; done) | (simp [*]; done)), H', ⟨Nat.le_refl _⟩, by repeat (first | exact Drawn0.refl _ | apply Drawn0.step)⟩
  case round =>
    clear H'
    try clear c1
    obtain ⟨x3_1, rfl, HA, HK1, ⟨m1, rfl⟩⟩ := hrel
    cases gk with
    | zero => exact absurd HA.out (by simp [spec_Paired.l0])
    | succ k1 =>
      have H := HA.out
      clear HA
      simp only [spec_Paired.l0] at H
      by_cases c2 : x3_1 < (a0.size : Int)
      · rw [if_pos c2] at H
        have c2b0 : decide (x3_1 < (a0.size : Int)) = true := decide_eq_true c2
        clear c2
        by_cases c3 : 0 ≤ x3_1
        · rw [if_pos c3] at H
          have c3b0 : decide (0 ≤ x3_1) = true := decide_eq_true c3
          clear c3
          by_cases c5 : (bt a0 x3_1) = 92
          · rw [if_pos c5] at H
            have c5b0 : ((bt a0 x3_1) == 92) = true := beq_iff_eq.mpr c5
            have c5b1 : ((bt a0 x3_1) != 92) = false := bne_eq_false_iff_eq.mpr c5
            clear c5
            replace H := Option.bind_eq_some_iff.mp H
            obtain ⟨⟨t108, t109⟩, A60, H⟩ := H
            replace H : (if t109 = true then ((spec_high.f t108).bind fun t110 => (if t110 = true then ((spec_unit.f k1 a0 (wrap64 (x3_1 + 6))).bind fun bt111 => (if bt111.2 = true then ((spec_low.f bt111.1).bind fun t113 => (if t113 = true then (spec_Paired.l0 k1 a0 (wrap64 (x3_1 + 12))) else (some false))) else (some false))) else ((spec_low.f t108).bind fun t114 => (if t114 = true then (some false) else (spec_Paired.l0 k1 a0 (wrap64 (x3_1 + 6))))))) else (spec_Paired.l0 k1 a0 (wrap64 (x3_1 + 2)))) = some r := H
            have A6 := Aside0.mk A60
            clear A60
            by_cases c7 : t109 = true
            · subst c7
              have H1 : ((spec_high.f t108).bind fun t110 => (if t110 = true then ((spec_unit.f k1 a0 (wrap64 (x3_1 + 6))).bind fun bt111 => (if bt111.2 = true then ((spec_low.f bt111.1).bind fun t113 => (if t113 = true then (spec_Paired.l0 k1 a0 (wrap64 (x3_1 + 12))) else (some false))) else (some false))) else ((spec_low.f t108).bind fun t114 => (if t114 = true then (some false) else (spec_Paired.l0 k1 a0 (wrap64 (x3_1 + 6))))))) = some r := by rw [if_pos rfl] at H; exact H
              clear H
              have H := H1
              clear H1
              replace H := Option.bind_eq_some_iff.mp H
              obtain ⟨t110, A80, H⟩ := H
              replace H : (if t110 = true then ((spec_unit.f k1 a0 (wrap64 (x3_1 + 6))).bind fun bt111 => (if bt111.2 = true then ((spec_low.f bt111.1).bind fun t113 => (if t113 = true then (spec_Paired.l0 k1 a0 (wrap64 (x3_1 + 12))) else (some false))) else (some false))) else ((spec_low.f t108).bind fun t114 => (if t114 = true then (some false) else (spec_Paired.l0 k1 a0 (wrap64 (x3_1 + 6)))))) = some r := H
              have A8 := Aside0.mk A80
              clear A80
              by_cases c9 : t110 = true
              · subst c9
                have H1 : ((spec_unit.f k1 a0 (wrap64 (x3_1 + 6))).bind fun bt111 => (if bt111.2 = true then ((spec_low.f bt111.1).bind fun t113 => (if t113 = true then (spec_Paired.l0 k1 a0 (wrap64 (x3_1 + 12))) else (some false))) else (some false))) = some r := by rw [if_pos rfl] at H; exact H
                clear H
                have H := H1
                clear H1
                replace H := Option.bind_eq_some_iff.mp H
                obtain ⟨⟨t111, t112⟩, A100, H⟩ := H
                replace H : (if t112 = true then ((spec_low.f t111).bind fun t113 => (if t113 = true then (spec_Paired.l0 k1 a0 (wrap64 (x3_1 + 12))) else (some false))) else (some false)) = some r := H
                have A10 := Aside0.mk A100
                clear A100
                by_cases c11 : t112 = true
                · subst c11
                  have H1 : ((spec_low.f t111).bind fun t113 => (if t113 = true then (spec_Paired.l0 k1 a0 (wrap64 (x3_1 + 12))) else (some false))) = some r := by rw [if_pos rfl] at H; exact H
                  clear H
                  have H := H1
                  clear H1
                  replace H := Option.bind_eq_some_iff.mp H
                  obtain ⟨t113, A120, H⟩ := H
                  replace H : (if t113 = true then (spec_Paired.l0 k1 a0 (wrap64 (x3_1 + 12))) else (some false)) = some r := H
                  have A12 := Aside0.mk A120
                  clear A120
                  by_cases c13 : t113 = true
                  · subst c13
                    have H1 : (spec_Paired.l0 k1 a0 (wrap64 (x3_1 + 12))) = some r := by rw [if_pos rfl] at H; exact H
                    clear H
                    have H := H1
                    clear H1
                    have H' := Aside0.mk H
                    clear H
                    have p4 : 0 ≤ (x3_1 : Int) := of_decide_eq_true (by first | (with_reducible assumption) | assumption)
                    have q4 : x3_1 < (a0.size : Int) := of_decide_eq_true (by first | (with_reducible assumption) | assumption)
                    have hx4 := bt_at a0 x3_1
                    replace p4 := eq_true p4
                    replace q4 := eq_true q4
                    go_wp2_with (first | ((with_reducible refine gate_callee (f := 20) rfl ?_); refine goesL_ (some 21) rfl rfl Tryd.func20 (by kernel_rfl) rfl #[.string a0, .int .i64 x3_1] rfl (by (try simp only [List.map_toArray, List.map_cons, List.map_nil]); first | done | rfl | (simp only [List.length_drop, List.length_take]; rfl)) ?_; (with_reducible refine (spec_unit.calls k1 a0 x3_1 t108 true _ A6.out).mono ?_); rintro e w' ⟨rfl, ⟨nd, rfl⟩⟩; refine ⟨_, rfl, ?_⟩) | ((with_reducible refine gate_callee (f := 21) rfl ?_); refine goesL_ (some 33) rfl rfl Tryd.func21 (by kernel_rfl) rfl #[.int .i64 t108] rfl (by (try simp only [List.map_toArray, List.map_cons, List.map_nil]); first | done | rfl | (simp only [List.length_drop, List.length_take]; rfl)) ?_; (with_reducible refine (spec_high.calls t108 true _ A8.out).mono ?_); rintro e w' ⟨rfl, ⟨nd, rfl⟩⟩; refine ⟨_, rfl, ?_⟩) | ((with_reducible refine gate_callee (f := 20) rfl ?_); refine goesL_ (some 38) rfl rfl Tryd.func20 (by kernel_rfl) rfl #[.string a0, .int .i64 (wrap64 (x3_1 + 6))] rfl (by (try simp only [List.map_toArray, List.map_cons, List.map_nil]); first | done | rfl | (simp only [List.length_drop, List.length_take]; rfl)) ?_; (with_reducible refine (spec_unit.calls k1 a0 (wrap64 (x3_1 + 6)) t111 true _ A10.out).mono ?_); rintro e w' ⟨rfl, ⟨nd, rfl⟩⟩; refine ⟨_, rfl, ?_⟩) | (go_at_call 22; (with_reducible refine (spec_low.calls t111 true _ A12.out).mono ?_); rintro e w' ⟨rfl, ⟨nd, rfl⟩⟩))
                    go_roundg k1
                    case measure => have := HK1.out; omega
                    case rel => exact ⟨(wrap64 (x3_1 + 12)), (by first | rfl | (simp; done) | (simp [*]; done)), H', ⟨by have := HK1.out; omega⟩, by repeat (first | exact Drawn0.refl _ | apply Drawn0.step)⟩
                  · replace c13 := Bool.eq_false_iff.mpr c13
                    subst c13
                    have H1 : (some false) = some r := by rw [if_neg (show ¬ (false = true) by decide)] at H; exact H
                    clear H
                    have H := H1
                    clear H1
                    obtain rfl := Option.some.inj H
                    have p4 : 0 ≤ (x3_1 : Int) := of_decide_eq_true (by first | (with_reducible assumption) | assumption)
                    have q4 : x3_1 < (a0.size : Int) := of_decide_eq_true (by first | (with_reducible assumption) | assumption)
                    have hx4 := bt_at a0 x3_1
                    replace p4 := eq_true p4
                    replace q4 := eq_true q4
                    go_wp2_with (first | ((with_reducible refine gate_callee (f := 20) rfl ?_); refine goesL_ (some 21) rfl rfl Tryd.func20 (by kernel_rfl) rfl #[.string a0, .int .i64 x3_1] rfl (by (try simp only [List.map_toArray, List.map_cons, List.map_nil]); first | done | rfl | (simp only [List.length_drop, List.length_take]; rfl)) ?_; (with_reducible refine (spec_unit.calls k1 a0 x3_1 t108 true _ A6.out).mono ?_); rintro e w' ⟨rfl, ⟨nd, rfl⟩⟩; refine ⟨_, rfl, ?_⟩) | ((with_reducible refine gate_callee (f := 21) rfl ?_); refine goesL_ (some 33) rfl rfl Tryd.func21 (by kernel_rfl) rfl #[.int .i64 t108] rfl (by (try simp only [List.map_toArray, List.map_cons, List.map_nil]); first | done | rfl | (simp only [List.length_drop, List.length_take]; rfl)) ?_; (with_reducible refine (spec_high.calls t108 true _ A8.out).mono ?_); rintro e w' ⟨rfl, ⟨nd, rfl⟩⟩; refine ⟨_, rfl, ?_⟩) | ((with_reducible refine gate_callee (f := 20) rfl ?_); refine goesL_ (some 38) rfl rfl Tryd.func20 (by kernel_rfl) rfl #[.string a0, .int .i64 (wrap64 (x3_1 + 6))] rfl (by (try simp only [List.map_toArray, List.map_cons, List.map_nil]); first | done | rfl | (simp only [List.length_drop, List.length_take]; rfl)) ?_; (with_reducible refine (spec_unit.calls k1 a0 (wrap64 (x3_1 + 6)) t111 true _ A10.out).mono ?_); rintro e w' ⟨rfl, ⟨nd, rfl⟩⟩; refine ⟨_, rfl, ?_⟩) | (go_at_call 22; (with_reducible refine (spec_low.calls t111 false _ A12.out).mono ?_); rintro e w' ⟨rfl, ⟨nd, rfl⟩⟩))
                    go_ret
                    exact ⟨by first | rfl | (simp; done) | (simp [*]; done), by repeat (first | exact Drawn0.refl _ | apply Drawn0.step)⟩
                · replace c11 := Bool.eq_false_iff.mpr c11
                  subst c11
                  have H1 : (some false) = some r := by rw [if_neg (show ¬ (false = true) by decide)] at H; exact H
                  clear H
                  have H := H1
                  clear H1
                  obtain rfl := Option.some.inj H
                  have p4 : 0 ≤ (x3_1 : Int) := of_decide_eq_true (by first | (with_reducible assumption) | assumption)
                  have q4 : x3_1 < (a0.size : Int) := of_decide_eq_true (by first | (with_reducible assumption) | assumption)
                  have hx4 := bt_at a0 x3_1
                  replace p4 := eq_true p4
                  replace q4 := eq_true q4
                  go_wp2_with (first | ((with_reducible refine gate_callee (f := 20) rfl ?_); refine goesL_ (some 21) rfl rfl Tryd.func20 (by kernel_rfl) rfl #[.string a0, .int .i64 x3_1] rfl (by (try simp only [List.map_toArray, List.map_cons, List.map_nil]); first | done | rfl | (simp only [List.length_drop, List.length_take]; rfl)) ?_; (with_reducible refine (spec_unit.calls k1 a0 x3_1 t108 true _ A6.out).mono ?_); rintro e w' ⟨rfl, ⟨nd, rfl⟩⟩; refine ⟨_, rfl, ?_⟩) | ((with_reducible refine gate_callee (f := 21) rfl ?_); refine goesL_ (some 33) rfl rfl Tryd.func21 (by kernel_rfl) rfl #[.int .i64 t108] rfl (by (try simp only [List.map_toArray, List.map_cons, List.map_nil]); first | done | rfl | (simp only [List.length_drop, List.length_take]; rfl)) ?_; (with_reducible refine (spec_high.calls t108 true _ A8.out).mono ?_); rintro e w' ⟨rfl, ⟨nd, rfl⟩⟩; refine ⟨_, rfl, ?_⟩) | ((with_reducible refine gate_callee (f := 20) rfl ?_); refine goesL_ (some 38) rfl rfl Tryd.func20 (by kernel_rfl) rfl #[.string a0, .int .i64 (wrap64 (x3_1 + 6))] rfl (by (try simp only [List.map_toArray, List.map_cons, List.map_nil]); first | done | rfl | (simp only [List.length_drop, List.length_take]; rfl)) ?_; (with_reducible refine (spec_unit.calls k1 a0 (wrap64 (x3_1 + 6)) t111 false _ A10.out).mono ?_); rintro e w' ⟨rfl, ⟨nd, rfl⟩⟩; refine ⟨_, rfl, ?_⟩))
                  go_ret
                  exact ⟨by first | rfl | (simp; done) | (simp [*]; done), by repeat (first | exact Drawn0.refl _ | apply Drawn0.step)⟩
              · replace c9 := Bool.eq_false_iff.mpr c9
                subst c9
                have H1 : ((spec_low.f t108).bind fun t114 => (if t114 = true then (some false) else (spec_Paired.l0 k1 a0 (wrap64 (x3_1 + 6))))) = some r := by rw [if_neg (show ¬ (false = true) by decide)] at H; exact H
                clear H
                have H := H1
                clear H1
                replace H := Option.bind_eq_some_iff.mp H
                obtain ⟨t114, A140, H⟩ := H
                replace H : (if t114 = true then (some false) else (spec_Paired.l0 k1 a0 (wrap64 (x3_1 + 6)))) = some r := H
                have A14 := Aside0.mk A140
                clear A140
                by_cases c15 : t114 = true
                · subst c15
                  have H1 : (some false) = some r := by rw [if_pos rfl] at H; exact H
                  clear H
                  have H := H1
                  clear H1
                  obtain rfl := Option.some.inj H
                  have p4 : 0 ≤ (x3_1 : Int) := of_decide_eq_true (by first | (with_reducible assumption) | assumption)
                  have q4 : x3_1 < (a0.size : Int) := of_decide_eq_true (by first | (with_reducible assumption) | assumption)
                  have hx4 := bt_at a0 x3_1
                  replace p4 := eq_true p4
                  replace q4 := eq_true q4
                  go_wp2_with (first | ((with_reducible refine gate_callee (f := 20) rfl ?_); refine goesL_ (some 21) rfl rfl Tryd.func20 (by kernel_rfl) rfl #[.string a0, .int .i64 x3_1] rfl (by (try simp only [List.map_toArray, List.map_cons, List.map_nil]); first | done | rfl | (simp only [List.length_drop, List.length_take]; rfl)) ?_; (with_reducible refine (spec_unit.calls k1 a0 x3_1 t108 true _ A6.out).mono ?_); rintro e w' ⟨rfl, ⟨nd, rfl⟩⟩; refine ⟨_, rfl, ?_⟩) | ((with_reducible refine gate_callee (f := 21) rfl ?_); refine goesL_ (some 33) rfl rfl Tryd.func21 (by kernel_rfl) rfl #[.int .i64 t108] rfl (by (try simp only [List.map_toArray, List.map_cons, List.map_nil]); first | done | rfl | (simp only [List.length_drop, List.length_take]; rfl)) ?_; (with_reducible refine (spec_high.calls t108 false _ A8.out).mono ?_); rintro e w' ⟨rfl, ⟨nd, rfl⟩⟩; refine ⟨_, rfl, ?_⟩) | ((with_reducible refine gate_callee (f := 22) rfl ?_); refine goesL_ (some 52) rfl rfl Tryd.func22 (by kernel_rfl) rfl #[.int .i64 t108] rfl (by (try simp only [List.map_toArray, List.map_cons, List.map_nil]); first | done | rfl | (simp only [List.length_drop, List.length_take]; rfl)) ?_; (with_reducible refine (spec_low.calls t108 true _ A14.out).mono ?_); rintro e w' ⟨rfl, ⟨nd, rfl⟩⟩; refine ⟨_, rfl, ?_⟩))
                  go_ret
                  exact ⟨by first | rfl | (simp; done) | (simp [*]; done), by repeat (first | exact Drawn0.refl _ | apply Drawn0.step)⟩
                · replace c15 := Bool.eq_false_iff.mpr c15
                  subst c15
                  have H1 : (spec_Paired.l0 k1 a0 (wrap64 (x3_1 + 6))) = some r := by rw [if_neg (show ¬ (false = true) by decide)] at H; exact H
                  clear H
                  have H := H1
                  clear H1
                  have H' := Aside0.mk H
                  clear H
                  have p4 : 0 ≤ (x3_1 : Int) := of_decide_eq_true (by first | (with_reducible assumption) | assumption)
                  have q4 : x3_1 < (a0.size : Int) := of_decide_eq_true (by first | (with_reducible assumption) | assumption)
                  have hx4 := bt_at a0 x3_1
                  replace p4 := eq_true p4
                  replace q4 := eq_true q4
                  go_wp2_with (first | ((with_reducible refine gate_callee (f := 20) rfl ?_); refine goesL_ (some 21) rfl rfl Tryd.func20 (by kernel_rfl) rfl #[.string a0, .int .i64 x3_1] rfl (by (try simp only [List.map_toArray, List.map_cons, List.map_nil]); first | done | rfl | (simp only [List.length_drop, List.length_take]; rfl)) ?_; (with_reducible refine (spec_unit.calls k1 a0 x3_1 t108 true _ A6.out).mono ?_); rintro e w' ⟨rfl, ⟨nd, rfl⟩⟩; refine ⟨_, rfl, ?_⟩) | ((with_reducible refine gate_callee (f := 21) rfl ?_); refine goesL_ (some 33) rfl rfl Tryd.func21 (by kernel_rfl) rfl #[.int .i64 t108] rfl (by (try simp only [List.map_toArray, List.map_cons, List.map_nil]); first | done | rfl | (simp only [List.length_drop, List.length_take]; rfl)) ?_; (with_reducible refine (spec_high.calls t108 false _ A8.out).mono ?_); rintro e w' ⟨rfl, ⟨nd, rfl⟩⟩; refine ⟨_, rfl, ?_⟩) | ((with_reducible refine gate_callee (f := 22) rfl ?_); refine goesL_ (some 52) rfl rfl Tryd.func22 (by kernel_rfl) rfl #[.int .i64 t108] rfl (by (try simp only [List.map_toArray, List.map_cons, List.map_nil]); first | done | rfl | (simp only [List.length_drop, List.length_take]; rfl)) ?_; (with_reducible refine (spec_low.calls t108 false _ A14.out).mono ?_); rintro e w' ⟨rfl, ⟨nd, rfl⟩⟩; refine ⟨_, rfl, ?_⟩))
                  go_roundg k1
                  case measure => have := HK1.out; omega
                  case rel => exact ⟨(wrap64 (x3_1 + 6)), (by first | rfl | (simp; done) | (simp [*]; done)), H', ⟨by have := HK1.out; omega⟩, by repeat (first | exact Drawn0.refl _ | apply Drawn0.step)⟩
            · replace c7 := Bool.eq_false_iff.mpr c7
              subst c7
              have H1 : (spec_Paired.l0 k1 a0 (wrap64 (x3_1 + 2))) = some r := by rw [if_neg (show ¬ (false = true) by decide)] at H; exact H
              clear H
              have H := H1
              clear H1
              have H' := Aside0.mk H
              clear H
              have p4 : 0 ≤ (x3_1 : Int) := of_decide_eq_true (by first | (with_reducible assumption) | assumption)
              have q4 : x3_1 < (a0.size : Int) := of_decide_eq_true (by first | (with_reducible assumption) | assumption)
              have hx4 := bt_at a0 x3_1
              replace p4 := eq_true p4
              replace q4 := eq_true q4
              go_wp2_with (first | ((with_reducible refine gate_callee (f := 20) rfl ?_); refine goesL_ (some 21) rfl rfl Tryd.func20 (by kernel_rfl) rfl #[.string a0, .int .i64 x3_1] rfl (by (try simp only [List.map_toArray, List.map_cons, List.map_nil]); first | done | rfl | (simp only [List.length_drop, List.length_take]; rfl)) ?_; (with_reducible refine (spec_unit.calls k1 a0 x3_1 t108 false _ A6.out).mono ?_); rintro e w' ⟨rfl, ⟨nd, rfl⟩⟩; refine ⟨_, rfl, ?_⟩))
              go_roundg k1
              case measure => have := HK1.out; omega
              case rel => exact ⟨(wrap64 (x3_1 + 2)), (by first | rfl | (simp; done) | (simp [*]; done)), H', ⟨by have := HK1.out; omega⟩, by repeat (first | exact Drawn0.refl _ | apply Drawn0.step)⟩
          · rw [if_neg c5] at H
            have c5b0 : ((bt a0 x3_1) == 92) = false := beq_eq_false_iff_ne.mpr c5
            have c5b1 : ((bt a0 x3_1) != 92) = true := bne_iff_ne.mpr c5
            have H' := Aside0.mk H
            clear H
            have p4 : 0 ≤ (x3_1 : Int) := of_decide_eq_true (by first | (with_reducible assumption) | assumption)
            have q4 : x3_1 < (a0.size : Int) := of_decide_eq_true (by first | (with_reducible assumption) | assumption)
            have hx4 := bt_at a0 x3_1
            replace p4 := eq_true p4
            replace q4 := eq_true q4
            go_wp2
            go_roundg k1
            case measure => have := HK1.out; omega
            case rel => exact ⟨(wrap64 (x3_1 + 1)), (by first | rfl | (simp; done) | (simp [*]; done)), H', ⟨by have := HK1.out; omega⟩, by repeat (first | exact Drawn0.refl _ | apply Drawn0.step)⟩
        · rw [if_neg c3] at H
          exact absurd H (by simp)
      · rw [if_neg c2] at H
        have c2b0 : decide (x3_1 < (a0.size : Int)) = false := decide_eq_false c2
        clear c2
        obtain rfl := Option.some.inj H
        go_wp2
        go_ret
        exact ⟨by first | rfl | (simp; done) | (simp [*]; done), by repeat (first | exact Drawn0.refl _ | apply Drawn0.step)⟩


/-! ### spec_short: function 64 -/
def spec_short.f (a0 : Int) : Option (Int) := if a0 = 98 then (some 8) else (if a0 = 102 then (some 12) else (if a0 = 110 then (some 10) else (if a0 = 114 then (some 13) else (if a0 = 116 then (some 9) else (some a0)))))
set_option maxHeartbeats 8000000 in
set_option maxRecDepth 100000 in
theorem spec_short.calls (a0 : Int) (r : Int) (w : World) (h : spec_short.f a0 = some r) :
    Calls Tryd.prog 64 #[.int .u8 a0] w fun e w' => e = .returned (.int .u8 r) ∧ Drawn0 w w' := by
  have H : (if a0 = 98 then (some 8) else (if a0 = 102 then (some 12) else (if a0 = 110 then (some 10) else (if a0 = 114 then (some 13) else (if a0 = 116 then (some 9) else (some a0)))))) = some r := h
  clear h
  by_cases c2 : a0 = 98
  · rw [if_pos c2] at H
    have c2b0 : (a0 == 98) = true := beq_iff_eq.mpr c2
    have c2b1 : (a0 != 98) = false := bne_eq_false_iff_eq.mpr c2
    clear c2
    obtain rfl := Option.some.inj H
    go_enter Tryd.func64, Tryd.ntmps64
    go_wp2
    go_ret
    exact ⟨by first | rfl | (simp; done) | (simp [*]; done), by repeat (first | exact Drawn0.refl _ | apply Drawn0.step)⟩
  · rw [if_neg c2] at H
    have c2b0 : (a0 == 98) = false := beq_eq_false_iff_ne.mpr c2
    have c2b1 : (a0 != 98) = true := bne_iff_ne.mpr c2
    by_cases c3 : a0 = 102
    · rw [if_pos c3] at H
      have c3b0 : (a0 == 102) = true := beq_iff_eq.mpr c3
      have c3b1 : (a0 != 102) = false := bne_eq_false_iff_eq.mpr c3
      clear c3
      obtain rfl := Option.some.inj H
      go_enter Tryd.func64, Tryd.ntmps64
      go_wp2
      go_ret
      exact ⟨by first | rfl | (simp; done) | (simp [*]; done), by repeat (first | exact Drawn0.refl _ | apply Drawn0.step)⟩
    · rw [if_neg c3] at H
      have c3b0 : (a0 == 102) = false := beq_eq_false_iff_ne.mpr c3
      have c3b1 : (a0 != 102) = true := bne_iff_ne.mpr c3
      by_cases c4 : a0 = 110
      · rw [if_pos c4] at H
        have c4b0 : (a0 == 110) = true := beq_iff_eq.mpr c4
        have c4b1 : (a0 != 110) = false := bne_eq_false_iff_eq.mpr c4
        clear c4
        obtain rfl := Option.some.inj H
        go_enter Tryd.func64, Tryd.ntmps64
        go_wp2
        go_ret
        exact ⟨by first | rfl | (simp; done) | (simp [*]; done), by repeat (first | exact Drawn0.refl _ | apply Drawn0.step)⟩
      · rw [if_neg c4] at H
        have c4b0 : (a0 == 110) = false := beq_eq_false_iff_ne.mpr c4
        have c4b1 : (a0 != 110) = true := bne_iff_ne.mpr c4
        by_cases c5 : a0 = 114
        · rw [if_pos c5] at H
          have c5b0 : (a0 == 114) = true := beq_iff_eq.mpr c5
          have c5b1 : (a0 != 114) = false := bne_eq_false_iff_eq.mpr c5
          clear c5
          obtain rfl := Option.some.inj H
          go_enter Tryd.func64, Tryd.ntmps64
          go_wp2
          go_ret
          exact ⟨by first | rfl | (simp; done) | (simp [*]; done), by repeat (first | exact Drawn0.refl _ | apply Drawn0.step)⟩
        · rw [if_neg c5] at H
          have c5b0 : (a0 == 114) = false := beq_eq_false_iff_ne.mpr c5
          have c5b1 : (a0 != 114) = true := bne_iff_ne.mpr c5
          by_cases c6 : a0 = 116
          · rw [if_pos c6] at H
            have c6b0 : (a0 == 116) = true := beq_iff_eq.mpr c6
            have c6b1 : (a0 != 116) = false := bne_eq_false_iff_eq.mpr c6
            clear c6
            obtain rfl := Option.some.inj H
            go_enter Tryd.func64, Tryd.ntmps64
            go_wp2
            go_ret
            exact ⟨by first | rfl | (simp; done) | (simp [*]; done), by repeat (first | exact Drawn0.refl _ | apply Drawn0.step)⟩
          · rw [if_neg c6] at H
            have c6b0 : (a0 == 116) = false := beq_eq_false_iff_ne.mpr c6
            have c6b1 : (a0 != 116) = true := bne_iff_ne.mpr c6
            obtain rfl := Option.some.inj H
            go_enter Tryd.func64, Tryd.ntmps64
            go_wp2
            go_ret
            exact ⟨by first | rfl | (simp; done) | (simp [*]; done), by repeat (first | exact Drawn0.refl _ | apply Drawn0.step)⟩


/-! ### spec_appendUTF8: function 65 -/
def spec_appendUTF8.j0 : Nat → List Int → Int → Bool → Option (List Int)
  | 0, _, _, _ => none
  | k + 1, x0, x1, x27 => if x27 = true then ((some (([239, 191, 189] : List Int) : List Int)).bind fun y309 => (if x0.length + y309.length < 140737488355328 then (some (x0 ++ y309)) else (none))) else (if x1 < 65536 then ((some (([(wrap64 (224 + (wrap64 (Int.tdiv x1 4096)))) % 256, (wrap64 (128 + (Int.tmod (wrap64 (Int.tdiv x1 64)) 64))) % 256, (wrap64 (128 + (Int.tmod x1 64))) % 256] : List Int) : List Int)).bind fun y315 => (if x0.length + y315.length < 140737488355328 then (some (x0 ++ y315)) else (none))) else ((some (([(wrap64 (240 + (wrap64 (Int.tdiv x1 262144)))) % 256, (wrap64 (128 + (Int.tmod (wrap64 (Int.tdiv x1 4096)) 64))) % 256, (wrap64 (128 + (Int.tmod (wrap64 (Int.tdiv x1 64)) 64))) % 256, (wrap64 (128 + (Int.tmod x1 64))) % 256] : List Int) : List Int)).bind fun y321 => (if x0.length + y321.length < 140737488355328 then (some (x0 ++ y321)) else (none))))
def spec_appendUTF8.f (k : Nat) (l0 : List Int) (a1 : Int) : Option (List Int) := if a1 < 128 then (if l0.length < 140737488355328 then (some (l0 ++ [(a1) % 256])) else (none)) else (if a1 < 2048 then ((some (([(wrap64 (192 + (wrap64 (Int.tdiv a1 64)))) % 256, (wrap64 (128 + (Int.tmod a1 64))) % 256] : List Int) : List Int)).bind fun y301 => (if l0.length + y301.length < 140737488355328 then (some (l0 ++ y301)) else (none))) else ((spec_high.f a1).bind fun t307 => (if t307 = true then (spec_appendUTF8.j0 k l0 a1 true) else ((spec_low.f a1).bind fun t308 => (spec_appendUTF8.j0 k l0 a1 t308)))))
theorem spec_appendUTF8.mono_l : ∀ k, (∀ y0 y1 y2, LeO (spec_appendUTF8.j0 k y0 y1 y2) (spec_appendUTF8.j0 (k + 1) y0 y1 y2))
  | 0 => fun _ _ _ r h => by simp [spec_appendUTF8.j0] at h
  | k + 1 => by
    have ih0 := spec_appendUTF8.mono_l k
    · intro y0 y1 y2
      unfold spec_appendUTF8.j0
      repeat' first
      | (with_reducible exact ih0 _ _ _)
      | (with_reducible exact LeO.refl _)
      | (with_reducible exact LeO.none _)
      | (with_reducible refine LeO.ite ?_ ?_)
      | (with_reducible refine LeO.bind ?_ (fun _ => ?_))
      | exact ih0 _ _ _
      | exact LeO.none _
      | refine LeO.ite ?_ ?_
      | refine LeO.bind ?_ (fun _ => ?_)
theorem spec_appendUTF8.mono : ∀ a0 a1 k, LeO (spec_appendUTF8.f k a0 a1) (spec_appendUTF8.f (k + 1) a0 a1) := by
  intro a0 a1 k
  have ih0 := spec_appendUTF8.mono_l k
  unfold spec_appendUTF8.f
  repeat' first
      | (with_reducible exact ih0 _ _ _)
      | (with_reducible exact LeO.refl _)
      | (with_reducible exact LeO.none _)
      | (with_reducible refine LeO.ite ?_ ?_)
      | (with_reducible refine LeO.bind ?_ (fun _ => ?_))
      | exact ih0 _ _ _
      | exact LeO.none _
      | refine LeO.ite ?_ ?_
      | refine LeO.bind ?_ (fun _ => ?_)
set_option maxHeartbeats 8000000 in
set_option maxRecDepth 100000 in
theorem spec_appendUTF8.calls (k : Nat) (P0_ : Nat → Prop) (u9000_ : Value) (l0 : List Int) (a1 : Int) (r : List Int) (w0 w : World) (hB : Below w0.heap.size w0 w) (ho0 : Kd.R (Kd.int .u8) 5 w w0.heap.size P0_ u9000_ l0) (h : spec_appendUTF8.f k l0 a1 = some r) :
    Calls Tryd.prog 65 #[u9000_, .int .i64 a1] w fun e w' => ∃ v0_ : Value, e = .returned (v0_) ∧ Kd.R (Kd.int .u8) 5 w' w0.heap.size (fun k_ => (P0_ k_ ∨ w.heap.size ≤ k_)) v0_ r ∧ Below w0.heap.size w0 w' ∧ Kept w w' (fun k_ => P0_ k_) := by
  have HO0 := Aside0.mk (show Kd.R (Kd.int .u8) 5 w w0.heap.size (fun k_ => (P0_ k_ ∨ w.heap.size ≤ k_)) u9000_ l0 from Kd.R_mono ho0 (fun k_ hk => (.inl hk)))
  have HK := Aside0.mk (Kept.refl w (fun k_ => P0_ k_))
  have HW0 := Aside0.mk hB.size
  have HB := Aside0.mk hB
  clear hB
  have H : (if a1 < 128 then (if l0.length < 140737488355328 then (some (l0 ++ [(a1) % 256])) else (none)) else (if a1 < 2048 then ((some (([(wrap64 (192 + (wrap64 (Int.tdiv a1 64)))) % 256, (wrap64 (128 + (Int.tmod a1 64))) % 256] : List Int) : List Int)).bind fun y301 => (if l0.length + y301.length < 140737488355328 then (some (l0 ++ y301)) else (none))) else ((spec_high.f a1).bind fun t307 => (if t307 = true then (spec_appendUTF8.j0 k l0 a1 true) else ((spec_low.f a1).bind fun t308 => (spec_appendUTF8.j0 k l0 a1 t308)))))) = some r := h
  clear h
  by_cases c3 : a1 < 128
  · rw [if_pos c3] at H
    have c3b0 : decide (a1 < 128) = true := decide_eq_true c3
    clear c3
    by_cases c4 : l0.length < 140737488355328
    · rw [if_pos c4] at H
      have LMc4 := Aside0.mk c4
      clear c4
      obtain ⟨y298, hy298⟩ : ∃ y_ : List Int, y_ = (l0 ++ [(a1) % 256]) := ⟨_, rfl⟩
      replace H : (some y298) = some r := by first | (rw [hy298]; with_reducible exact H) | (have H2_ := (Option.bind_some _ _).symm.trans H; rw [hy298]; with_reducible exact H2_) | (have H2_ := (Option.bind_some _ _).symm.trans H; with_reducible exact H2_) | with_reducible exact H | (rw [hy298]; exact H) | exact H
      have Ny298 := Aside0.mk hy298
      clear hy298
      obtain rfl := Option.some.inj H
      go_enter Tryd.func65, Tryd.ntmps65
      go_wp2_with (first | ((with_reducible refine gate_builtin (b := .append) (xs := #[.tmp 8, .tmp 11]) rfl ?_); at_builtin; refine Kd.R_append (Kd.int .u8) (w0 := w0) w0.heap.size rfl (.tmp 8) (.tmp 11) 34 5 (.int .u8 0) 1 rfl Tryd.underlying34 info5 rfl (by decide) (by omega) u9000_ l0 ((a1) % 256) [.int .u8 ((a1) % 256)] (fun k_ => (P0_ k_ ∨ w.heap.size ≤ k_)) (fun _ => False) rfl rfl ?aP (fun _ hk => hk.elim) ?aF ?aO ?aB ?aS ?aL ?_; (case aP => exact rfl); (case aB => exact (by repeat (first | (with_reducible first | exact HB.out | apply below_alloc | apply pw_below_drewN | apply below_drew1) | exact HB.out))); (case aF => exact (fun k_ hk => (.inr (Nat.le_trans (by first | exact HK.out.1 | exact (show Kept w _ (fun k_ => P0_ k_) from by repeat (first | (with_reducible first | exact HK.out | apply Kept.alloc | apply Kept.drewN | apply Kept.drew) | exact HK.out)).1) hk)))); (case aO => exact (by (with_reducible repeat (first | apply Kd.R_alloc | apply Kd.R_drewN | apply Kd.R_drew)); exact HO0.out)); (case aS => exact (below_size (by repeat (first | (with_reducible first | exact HB.out | apply below_alloc | apply pw_below_drewN | apply below_drew1) | exact HB.out)))); (case aL => have := LMc4.out; omega); intro v299 w5 ho hb hg hat; rw [← Ny298.out] at ho; have n0_ := Aside0.mk (hb); have n1_ := Aside0.mk (Kept.of_grown (S := (fun k_ => P0_ k_)) hg (by repeat (first | (with_reducible first | exact HK.out | apply Kept.alloc | apply Kept.drewN | apply Kept.drew) | exact HK.out)) (fun k_ e_ => (HO0.out.1 k_ e_))); have n2_ := Aside0.mk (ho); clear HB; clear HK; clear HO0; have HB := n0_; have HK := n1_; have HO300 := n2_; clear n0_ n1_ n2_; clear ho hb hg hat))
      go_ret
      exact ⟨_, by first | rfl | (simp [errX_none, errX_some] <;> rfl) | (simp [*, errX_none, errX_some] <;> rfl), by (with_reducible repeat (first | apply Kd.R_alloc | apply Kd.R_drewN | apply Kd.R_drew)); exact HO300.out, by repeat (first | (with_reducible first | exact HB.out | apply below_alloc | apply pw_below_drewN | apply below_drew1) | exact HB.out), by repeat (first | (with_reducible first | exact HK.out | apply Kept.alloc | apply Kept.drewN | apply Kept.drew) | exact HK.out)⟩
    · rw [if_neg c4] at H
      exact absurd H (by simp)
  · rw [if_neg c3] at H
    have c3b0 : decide (a1 < 128) = false := decide_eq_false c3
    clear c3
    by_cases c6 : a1 < 2048
    · rw [if_pos c6] at H
      have c6b0 : decide (a1 < 2048) = true := decide_eq_true c6
      clear c6
      obtain ⟨y301, hy301⟩ : ∃ y_ : List Int, y_ = (([(wrap64 (192 + (wrap64 (Int.tdiv a1 64)))) % 256, (wrap64 (128 + (Int.tmod a1 64))) % 256] : List Int)) := ⟨_, rfl⟩
      replace H : (if l0.length + y301.length < 140737488355328 then (some (l0 ++ y301)) else (none)) = some r := by first | (rw [hy301]; with_reducible exact H) | (have H2_ := (Option.bind_some _ _).symm.trans H; rw [hy301]; with_reducible exact H2_) | (have H2_ := (Option.bind_some _ _).symm.trans H; with_reducible exact H2_) | with_reducible exact H | (rw [hy301]; exact H) | exact H
      have Ny301 := Aside0.mk hy301
      clear hy301
      by_cases c7 : l0.length + y301.length < 140737488355328
      · rw [if_pos c7] at H
        have LMc7 := Aside0.mk c7
        clear c7
        obtain ⟨y304, hy304⟩ : ∃ y_ : List Int, y_ = (l0 ++ y301) := ⟨_, rfl⟩
        replace H : (some y304) = some r := by first | (rw [hy304]; with_reducible exact H) | (have H2_ := (Option.bind_some _ _).symm.trans H; rw [hy304]; with_reducible exact H2_) | (have H2_ := (Option.bind_some _ _).symm.trans H; with_reducible exact H2_) | with_reducible exact H | (rw [hy304]; exact H) | exact H
        have Ny304 := Aside0.mk hy304
        clear hy304
        obtain rfl := Option.some.inj H
        go_enter Tryd.func65, Tryd.ntmps65
        go_wp2_with (first | ((with_reducible refine gate_dst (N := 25) rfl ?_); refine Kd.R_lit (Kd.int .u8) _ 5 ?hg (N := 25) ?hd (xs := ([(wrap64 (192 + (wrap64 (Int.tdiv a1 64)))) % 256, (wrap64 (128 + (Int.tmod a1 64))) % 256] : List Int)) (inner := [.int .u8 ((wrap64 (192 + (wrap64 (Int.tdiv a1 64)))) % 256), .int .u8 ((wrap64 (128 + (Int.tmod a1 64))) % 256)]) (ok := fun _ => True) (okp := fun _ => True) ?hr ?hp (fun _ hk => hk) trivial (Below.refl _ _) (Nat.le_refl _) (by simp) ?_; (case hd => rfl); (case hg => rfl); (case hr => first | (go_simp; done) | (go_simp; rfl)); (case hp => exact (Reps.one (show Kd.M (Kd.int .u8) _ _ _ ((wrap64 (192 + (wrap64 (Int.tdiv a1 64)))) % 256) [.int .u8 ((wrap64 (192 + (wrap64 (Int.tdiv a1 64)))) % 256)] from rfl) (Reps.one (show Kd.M (Kd.int .u8) _ _ _ ((wrap64 (128 + (Int.tmod a1 64))) % 256) [.int .u8 ((wrap64 (128 + (Int.tmod a1 64))) % 256)] from rfl) (Reps.none _ _)))); intro v302 w8 ho9 hb hg_ hnew_; clear hg_ hnew_; (first | rw [← Ny301.out] at ho9 | (simp only [Int.reduceToNat] at ho9; rw [← Ny301.out] at ho9)); have n0_ := Aside0.mk (Kd.R_elder' (by (with_reducible repeat (first | apply Kd.R_alloc | apply Kd.R_drewN | apply Kd.R_drew)); exact HO0.out) (Kd.R_base ho9) hb); have n1_ := Aside0.mk (Kd.R_lower (Kd.R_new' (Kd.R_newM (M := fun k_ => (P0_ k_ ∨ w.heap.size ≤ k_)) ho9 (by first | exact HK.out.1 | exact (show Kept w _ (fun k_ => P0_ k_) from by repeat (first | (with_reducible first | exact HK.out | apply Kept.alloc | apply Kept.drewN | apply Kept.drew) | exact HK.out)).1) (fun k_ h_ => .inr h_)) (Kd.R_lt (by (with_reducible repeat (first | apply Kd.R_alloc | apply Kd.R_drewN | apply Kd.R_drew)); exact HO0.out))) (below_size (by repeat (first | (with_reducible first | exact HB.out | apply below_alloc | apply pw_below_drewN | apply below_drew1) | exact HB.out)))); have n2_ := Aside0.mk (Kept.below (S := (fun k_ => P0_ k_)) (by repeat (first | (with_reducible first | exact HK.out | apply Kept.alloc | apply Kept.drewN | apply Kept.drew) | exact HK.out)) hb); have n3_ := Aside0.mk (below_step (by repeat (first | (with_reducible first | exact HB.out | apply below_alloc | apply pw_below_drewN | apply below_drew1) | exact HB.out)) hb); clear HO0; clear HK; clear HB; have HO0 := n0_; have HO303 := n1_; have HK := n2_; have HB := n3_; clear n0_ n1_ n2_ n3_; clear hb ho9; obtain ⟨Ao11, co11, eo11⟩ := Kd.R_slice HO303.out; subst eo11) | ((with_reducible refine gate_builtin (b := .append) (xs := #[.tmp 16, .tmp 25]) rfl ?_); at_builtin; refine Kd.R_append_rows (Kd.int .u8) (w0 := w0) w0.heap.size rfl (.tmp 16) (.tmp 25) 34 5 (.int .u8 0) 1 rfl Tryd.underlying34 info5 rfl (by decide) (by omega) u9000_ l0 y301 _ _ _ (fun k_ => (P0_ k_ ∨ w.heap.size ≤ k_) ∧ some k_ ≠ (.slice Ao11 y301.length co11 : Value).ownBlock) (fun _ => False) rfl rfl ?aO ?aR (fun _ _ h => h) (fun _ h => h.elim) ?aF ?aB ?aS ?aL ?_; (case aR => repeat (first | exact (Kd.R_reads' HO303.out).2.2 | (with_reducible refine Kd.C_alloc ?_ _) | (with_reducible refine Kd.C_drewN ?_ _) | (with_reducible refine Kd.C_drew ?_))); (case aB => exact (by repeat (first | (with_reducible first | exact HB.out | apply below_alloc | apply pw_below_drewN | apply below_drew1) | exact HB.out))); (case aF => exact (fun k_ hk => ⟨(.inr (Nat.le_trans (by first | exact HK.out.1 | exact (show Kept w _ (fun k_ => P0_ k_) from by repeat (first | (with_reducible first | exact HK.out | apply Kept.alloc | apply Kept.drewN | apply Kept.drew) | exact HK.out)).1) hk)), Kd.fresh' (Kd.R_lt (by (with_reducible repeat (first | apply Kd.R_alloc | apply Kd.R_drewN | apply Kd.R_drew)); exact HO303.out)) k_ hk⟩)); (case aO => exact (by (with_reducible repeat (first | apply Kd.R_alloc | apply Kd.R_drewN | apply Kd.R_drew)); exact HO0.out)); (case aS => exact (below_size (by repeat (first | (with_reducible first | exact HB.out | apply below_alloc | apply pw_below_drewN | apply below_drew1) | exact HB.out)))); (case aL => have := LMc7.out; omega); intro v305 w10 ho hb hg hat; rw [← Ny304.out] at ho; have n0_ := Aside0.mk (Kd.R_after (ok := (fun k_ => (P0_ k_ ∨ w.heap.size ≤ k_))) (by (with_reducible repeat (first | apply Kd.R_alloc | apply Kd.R_drewN | apply Kd.R_drew)); exact Kd.R_mono HO303.out (fun _ hk => ⟨hk.1.1, hk.2⟩)) hg hat); have n1_ := Aside0.mk (hb); have n2_ := Aside0.mk (Kept.of_grown (S := (fun k_ => P0_ k_)) hg (by repeat (first | (with_reducible first | exact HK.out | apply Kept.alloc | apply Kept.drewN | apply Kept.drew) | exact HK.out)) (fun k_ e_ => (HO0.out.1 k_ e_).1)); have n3_ := Aside0.mk (ho); clear HO303; clear HB; clear HK; clear HO0; have HO303 := n0_; have HB := n1_; have HK := n2_; have HO306 := n3_; clear n0_ n1_ n2_ n3_; clear ho hb hg hat))
        go_ret
        exact ⟨_, by first | rfl | (simp [errX_none, errX_some] <;> rfl) | (simp [*, errX_none, errX_some] <;> rfl), by (with_reducible repeat (first | apply Kd.R_alloc | apply Kd.R_drewN | apply Kd.R_drew)); exact Kd.R_mono HO306.out (fun _ hk => hk.1), by repeat (first | (with_reducible first | exact HB.out | apply below_alloc | apply pw_below_drewN | apply below_drew1) | exact HB.out), by repeat (first | (with_reducible first | exact HK.out | apply Kept.alloc | apply Kept.drewN | apply Kept.drew) | exact HK.out)⟩
      · rw [if_neg c7] at H
        exact absurd H (by simp)
    · rw [if_neg c6] at H
      have c6b0 : decide (a1 < 2048) = false := decide_eq_false c6
      clear c6
      have HC12 := Aside0.mk H
      clear H
      go_enter Tryd.func65, Tryd.ntmps65
      go_upto_region 5 with (fail)
      go_cut [27] (fun v27 wc => ∃ (kq : Nat) (x27_11 : Bool), v27 = .bool x27_11 ∧ Aside0 (spec_appendUTF8.j0 kq l0 a1 x27_11 = some r) ∧ Aside0 (kq ≤ k) ∧ Aside0 (Kd.R (Kd.int .u8) 5 wc w0.heap.size (fun k_ => (P0_ k_ ∨ w.heap.size ≤ k_)) u9000_ l0) ∧ Aside0 (Kept w wc (fun k_ => P0_ k_)) ∧ Aside0 (Below w0.heap.size w0 wc))
      case first =>
        have H := HC12.out
        clear HC12
        replace H := Option.bind_eq_some_iff.mp H
        obtain ⟨t307, A130, H⟩ := H
        replace H : (if t307 = true then (spec_appendUTF8.j0 k l0 a1 true) else ((spec_low.f a1).bind fun t308 => (spec_appendUTF8.j0 k l0 a1 t308))) = some r := H
        have A13 := Aside0.mk A130
        clear A130
        by_cases c14 : t307 = true
        · subst c14
          have H1 : (spec_appendUTF8.j0 k l0 a1 true) = some r := by rw [if_pos rfl] at H; exact H
          clear H
          have H := H1
          clear H1
          have H' := Aside0.mk H
          clear H
          go_wp2_with (first | ((with_reducible refine gate_callee (f := 21) rfl ?_); refine goesL_ (some 29) rfl rfl Tryd.func21 (by kernel_rfl) rfl #[.int .i64 a1] rfl (by (try simp only [List.map_toArray, List.map_cons, List.map_nil]); first | done | rfl | (simp only [List.length_drop, List.length_take]; rfl)) ?_; (with_reducible refine (spec_high.calls a1 true _ A13.out).mono ?_); rintro e w' ⟨rfl, ⟨nd, rfl⟩⟩; refine ⟨_, rfl, ?_⟩))
          (first | go_meet)
          case rel => exact ⟨_, (true), (by first | rfl | (simp; done) | (simp [*]; done)), H', ⟨by first | omega | exact Nat.le_refl _⟩, ⟨by (with_reducible repeat (first | apply Kd.R_alloc | apply Kd.R_drewN | apply Kd.R_drew)); exact HO0.out⟩, ⟨by repeat (first | (with_reducible first | exact HK.out | apply Kept.alloc | apply Kept.drewN | apply Kept.drew) | exact HK.out)⟩, ⟨by repeat (first | (with_reducible first | exact HB.out | apply below_alloc | apply pw_below_drewN | apply below_drew1) | exact HB.out)⟩⟩
        · replace c14 := Bool.eq_false_iff.mpr c14
          subst c14
          have H1 : ((spec_low.f a1).bind fun t308 => (spec_appendUTF8.j0 k l0 a1 t308)) = some r := by rw [if_neg (show ¬ (false = true) by decide)] at H; exact H
          clear H
          have H := H1
          clear H1
          replace H := Option.bind_eq_some_iff.mp H
          obtain ⟨t308, A150, H⟩ := H
          replace H : (spec_appendUTF8.j0 k l0 a1 t308) = some r := H
          have A15 := Aside0.mk A150
          clear A150
          have H' := Aside0.mk H
          clear H
          go_wp2_with (first | ((with_reducible refine gate_callee (f := 21) rfl ?_); refine goesL_ (some 29) rfl rfl Tryd.func21 (by kernel_rfl) rfl #[.int .i64 a1] rfl (by (try simp only [List.map_toArray, List.map_cons, List.map_nil]); first | done | rfl | (simp only [List.length_drop, List.length_take]; rfl)) ?_; (with_reducible refine (spec_high.calls a1 false _ A13.out).mono ?_); rintro e w' ⟨rfl, ⟨nd, rfl⟩⟩; refine ⟨_, rfl, ?_⟩) | (go_at_call 22; (with_reducible refine (spec_low.calls a1 t308 _ A15.out).mono ?_); rintro e w' ⟨rfl, ⟨nd, rfl⟩⟩))
          (first | go_meet)
          case rel => exact ⟨_, (t308), (by first | rfl | (simp; done) | (simp [*]; done)), H', ⟨by first | omega | exact Nat.le_refl _⟩, ⟨by (with_reducible repeat (first | apply Kd.R_alloc | apply Kd.R_drewN | apply Kd.R_drew)); exact HO0.out⟩, ⟨by repeat (first | (with_reducible first | exact HK.out | apply Kept.alloc | apply Kept.drewN | apply Kept.drew) | exact HK.out)⟩, ⟨by repeat (first | (with_reducible first | exact HB.out | apply below_alloc | apply pw_below_drewN | apply below_drew1) | exact HB.out)⟩⟩
      case rest =>
        clear HC12
        try clear c1
        try clear c2
        try clear p2
        try clear c3
        try clear c3b0
        try clear c4
        try clear c6
        try clear c6b0
        try clear p6
        try clear c7
        try clear c14
        obtain ⟨kq, x27_11, rfl, HA, HJ11, HO_0, HK, HB⟩ := hcut
        cases kq with
        | zero => exact absurd HA.out (by simp [spec_appendUTF8.j0])
        | succ kj11 =>
          have H := HA.out
          clear HA
          simp only [spec_appendUTF8.j0] at H
          by_cases c16 : x27_11 = true
          · subst c16
            have H1 : ((some (([239, 191, 189] : List Int) : List Int)).bind fun y309 => (if l0.length + y309.length < 140737488355328 then (some (l0 ++ y309)) else (none))) = some r := by rw [if_pos rfl] at H; exact H
            clear H
            have H := H1
            clear H1
            obtain ⟨y309, hy309⟩ : ∃ y_ : List Int, y_ = (([239, 191, 189] : List Int)) := ⟨_, rfl⟩
            replace H : (if l0.length + y309.length < 140737488355328 then (some (l0 ++ y309)) else (none)) = some r := by first | (rw [hy309]; with_reducible exact H) | (have H2_ := (Option.bind_some _ _).symm.trans H; rw [hy309]; with_reducible exact H2_) | (have H2_ := (Option.bind_some _ _).symm.trans H; with_reducible exact H2_) | with_reducible exact H | (rw [hy309]; exact H) | exact H
            have Ny309 := Aside0.mk hy309
            clear hy309
            by_cases c17 : l0.length + y309.length < 140737488355328
            · rw [if_pos c17] at H
              have LMc17 := Aside0.mk c17
              clear c17
              obtain ⟨y312, hy312⟩ : ∃ y_ : List Int, y_ = (l0 ++ y309) := ⟨_, rfl⟩
              replace H : (some y312) = some r := by first | (rw [hy312]; with_reducible exact H) | (have H2_ := (Option.bind_some _ _).symm.trans H; rw [hy312]; with_reducible exact H2_) | (have H2_ := (Option.bind_some _ _).symm.trans H; with_reducible exact H2_) | with_reducible exact H | (rw [hy312]; exact H) | exact H
              have Ny312 := Aside0.mk hy312
              clear hy312
              obtain rfl := Option.some.inj H
              go_wp2_with (first | ((with_reducible refine gate_dst (N := 35) rfl ?_); refine Kd.R_lit (Kd.int .u8) _ 5 ?hg (N := 35) ?hd (xs := ([239, 191, 189] : List Int)) (inner := [.int .u8 239, .int .u8 191, .int .u8 189]) (ok := fun _ => True) (okp := fun _ => True) ?hr ?hp (fun _ hk => hk) trivial (Below.refl _ _) (Nat.le_refl _) (by simp) ?_; (case hd => rfl); (case hg => rfl); (case hr => first | (go_simp; done) | (go_simp; rfl)); (case hp => exact (Reps.one (show Kd.M (Kd.int .u8) _ _ _ 239 [.int .u8 239] from rfl) (Reps.one (show Kd.M (Kd.int .u8) _ _ _ 191 [.int .u8 191] from rfl) (Reps.one (show Kd.M (Kd.int .u8) _ _ _ 189 [.int .u8 189] from rfl) (Reps.none _ _))))); intro v310 w18 ho19 hb hg_ hnew_; clear hg_ hnew_; (first | rw [← Ny309.out] at ho19 | (simp only [Int.reduceToNat] at ho19; rw [← Ny309.out] at ho19)); have n0_ := Aside0.mk (Kd.R_elder' (by (with_reducible repeat (first | apply Kd.R_alloc | apply Kd.R_drewN | apply Kd.R_drew)); exact HO_0.out) (Kd.R_base ho19) hb); have n1_ := Aside0.mk (Kd.R_lower (Kd.R_new' (Kd.R_newM (M := fun k_ => (P0_ k_ ∨ w.heap.size ≤ k_)) ho19 (by first | exact HK.out.1 | exact (show Kept w _ (fun k_ => P0_ k_) from by repeat (first | (with_reducible first | exact HK.out | apply Kept.alloc | apply Kept.drewN | apply Kept.drew) | exact HK.out)).1) (fun k_ h_ => .inr h_)) (Kd.R_lt (by (with_reducible repeat (first | apply Kd.R_alloc | apply Kd.R_drewN | apply Kd.R_drew)); exact HO_0.out))) (below_size (by repeat (first | (with_reducible first | exact HB.out | apply below_alloc | apply pw_below_drewN | apply below_drew1) | exact HB.out)))); have n2_ := Aside0.mk (Kept.below (S := (fun k_ => P0_ k_)) (by repeat (first | (with_reducible first | exact HK.out | apply Kept.alloc | apply Kept.drewN | apply Kept.drew) | exact HK.out)) hb); have n3_ := Aside0.mk (below_step (by repeat (first | (with_reducible first | exact HB.out | apply below_alloc | apply pw_below_drewN | apply below_drew1) | exact HB.out)) hb); clear HO_0; clear HK; clear HB; have HO_0 := n0_; have HO311 := n1_; have HK := n2_; have HB := n3_; clear n0_ n1_ n2_ n3_; clear hb ho19; obtain ⟨Ao21, co21, eo21⟩ := Kd.R_slice HO311.out; subst eo21) | ((with_reducible refine gate_builtin (b := .append) (xs := #[.tmp 34, .tmp 35]) rfl ?_); at_builtin; refine Kd.R_append_rows (Kd.int .u8) (w0 := w0) w0.heap.size rfl (.tmp 34) (.tmp 35) 34 5 (.int .u8 0) 1 rfl Tryd.underlying34 info5 rfl (by decide) (by omega) u9000_ l0 y309 _ _ _ (fun k_ => (P0_ k_ ∨ w.heap.size ≤ k_) ∧ some k_ ≠ (.slice Ao21 y309.length co21 : Value).ownBlock) (fun _ => False) rfl rfl ?aO ?aR (fun _ _ h => h) (fun _ h => h.elim) ?aF ?aB ?aS ?aL ?_; (case aR => repeat (first | exact (Kd.R_reads' HO311.out).2.2 | (with_reducible refine Kd.C_alloc ?_ _) | (with_reducible refine Kd.C_drewN ?_ _) | (with_reducible refine Kd.C_drew ?_))); (case aB => exact (by repeat (first | (with_reducible first | exact HB.out | apply below_alloc | apply pw_below_drewN | apply below_drew1) | exact HB.out))); (case aF => exact (fun k_ hk => ⟨(.inr (Nat.le_trans (by first | exact HK.out.1 | exact (show Kept w _ (fun k_ => P0_ k_) from by repeat (first | (with_reducible first | exact HK.out | apply Kept.alloc | apply Kept.drewN | apply Kept.drew) | exact HK.out)).1) hk)), Kd.fresh' (Kd.R_lt (by (with_reducible repeat (first | apply Kd.R_alloc | apply Kd.R_drewN | apply Kd.R_drew)); exact HO311.out)) k_ hk⟩)); (case aO => exact (by (with_reducible repeat (first | apply Kd.R_alloc | apply Kd.R_drewN | apply Kd.R_drew)); exact HO_0.out)); (case aS => exact (below_size (by repeat (first | (with_reducible first | exact HB.out | apply below_alloc | apply pw_below_drewN | apply below_drew1) | exact HB.out)))); (case aL => have := LMc17.out; omega); intro v313 w20 ho hb hg hat; rw [← Ny312.out] at ho; have n0_ := Aside0.mk (Kd.R_after (ok := (fun k_ => (P0_ k_ ∨ w.heap.size ≤ k_))) (by (with_reducible repeat (first | apply Kd.R_alloc | apply Kd.R_drewN | apply Kd.R_drew)); exact Kd.R_mono HO311.out (fun _ hk => ⟨hk.1.1, hk.2⟩)) hg hat); have n1_ := Aside0.mk (hb); have n2_ := Aside0.mk (Kept.of_grown (S := (fun k_ => P0_ k_)) hg (by repeat (first | (with_reducible first | exact HK.out | apply Kept.alloc | apply Kept.drewN | apply Kept.drew) | exact HK.out)) (fun k_ e_ => (HO_0.out.1 k_ e_).1)); have n3_ := Aside0.mk (ho); clear HO311; clear HB; clear HK; clear HO_0; have HO311 := n0_; have HB := n1_; have HK := n2_; have HO314 := n3_; clear n0_ n1_ n2_ n3_; clear ho hb hg hat))
              go_ret
              exact ⟨_, by first | rfl | (simp [errX_none, errX_some] <;> rfl) | (simp [*, errX_none, errX_some] <;> rfl), by (with_reducible repeat (first | apply Kd.R_alloc | apply Kd.R_drewN | apply Kd.R_drew)); exact Kd.R_mono HO314.out (fun _ hk => hk.1), by repeat (first | (with_reducible first | exact HB.out | apply below_alloc | apply pw_below_drewN | apply below_drew1) | exact HB.out), by repeat (first | (with_reducible first | exact HK.out | apply Kept.alloc | apply Kept.drewN | apply Kept.drew) | exact HK.out)⟩
            · rw [if_neg c17] at H
              exact absurd H (by simp)
          · replace c16 := Bool.eq_false_iff.mpr c16
            subst c16
            have H1 : (if a1 < 65536 then ((some (([(wrap64 (224 + (wrap64 (Int.tdiv a1 4096)))) % 256, (wrap64 (128 + (Int.tmod (wrap64 (Int.tdiv a1 64)) 64))) % 256, (wrap64 (128 + (Int.tmod a1 64))) % 256] : List Int) : List Int)).bind fun y315 => (if l0.length + y315.length < 140737488355328 then (some (l0 ++ y315)) else (none))) else ((some (([(wrap64 (240 + (wrap64 (Int.tdiv a1 262144)))) % 256, (wrap64 (128 + (Int.tmod (wrap64 (Int.tdiv a1 4096)) 64))) % 256, (wrap64 (128 + (Int.tmod (wrap64 (Int.tdiv a1 64)) 64))) % 256, (wrap64 (128 + (Int.tmod a1 64))) % 256] : List Int) : List Int)).bind fun y321 => (if l0.length + y321.length < 140737488355328 then (some (l0 ++ y321)) else (none)))) = some r := by rw [if_neg (show ¬ (false = true) by decide)] at H; exact H
            clear H
            have H := H1
            clear H1
            by_cases c22 : a1 < 65536
            · rw [if_pos c22] at H
              have c22b0 : decide (a1 < 65536) = true := decide_eq_true c22
              clear c22
              obtain ⟨y315, hy315⟩ : ∃ y_ : List Int, y_ = (([(wrap64 (224 + (wrap64 (Int.tdiv a1 4096)))) % 256, (wrap64 (128 + (Int.tmod (wrap64 (Int.tdiv a1 64)) 64))) % 256, (wrap64 (128 + (Int.tmod a1 64))) % 256] : List Int)) := ⟨_, rfl⟩
              replace H : (if l0.length + y315.length < 140737488355328 then (some (l0 ++ y315)) else (none)) = some r := by first | (rw [hy315]; with_reducible exact H) | (have H2_ := (Option.bind_some _ _).symm.trans H; rw [hy315]; with_reducible exact H2_) | (have H2_ := (Option.bind_some _ _).symm.trans H; with_reducible exact H2_) | with_reducible exact H | (rw [hy315]; exact H) | exact H
              have Ny315 := Aside0.mk hy315
              clear hy315
              by_cases c23 : l0.length + y315.length < 140737488355328
              · rw [if_pos c23] at H
                have LMc23 := Aside0.mk c23
                clear c23
                obtain ⟨y318, hy318⟩ : ∃ y_ : List Int, y_ = (l0 ++ y315) := ⟨_, rfl⟩
                replace H : (some y318) = some r := by first | (rw [hy318]; with_reducible exact H) | (have H2_ := (Option.bind_some _ _).symm.trans H; rw [hy318]; with_reducible exact H2_) | (have H2_ := (Option.bind_some _ _).symm.trans H; with_reducible exact H2_) | with_reducible exact H | (rw [hy318]; exact H) | exact H
                have Ny318 := Aside0.mk hy318
                clear hy318
                obtain rfl := Option.some.inj H
                go_wp2_with (first | ((with_reducible refine gate_dst (N := 54) rfl ?_); refine Kd.R_lit (Kd.int .u8) _ 5 ?hg (N := 54) ?hd (xs := ([(wrap64 (224 + (wrap64 (Int.tdiv a1 4096)))) % 256, (wrap64 (128 + (Int.tmod (wrap64 (Int.tdiv a1 64)) 64))) % 256, (wrap64 (128 + (Int.tmod a1 64))) % 256] : List Int)) (inner := [.int .u8 ((wrap64 (224 + (wrap64 (Int.tdiv a1 4096)))) % 256), .int .u8 ((wrap64 (128 + (Int.tmod (wrap64 (Int.tdiv a1 64)) 64))) % 256), .int .u8 ((wrap64 (128 + (Int.tmod a1 64))) % 256)]) (ok := fun _ => True) (okp := fun _ => True) ?hr ?hp (fun _ hk => hk) trivial (Below.refl _ _) (Nat.le_refl _) (by simp) ?_; (case hd => rfl); (case hg => rfl); (case hr => first | (go_simp; done) | (go_simp; rfl)); (case hp => exact (Reps.one (show Kd.M (Kd.int .u8) _ _ _ ((wrap64 (224 + (wrap64 (Int.tdiv a1 4096)))) % 256) [.int .u8 ((wrap64 (224 + (wrap64 (Int.tdiv a1 4096)))) % 256)] from rfl) (Reps.one (show Kd.M (Kd.int .u8) _ _ _ ((wrap64 (128 + (Int.tmod (wrap64 (Int.tdiv a1 64)) 64))) % 256) [.int .u8 ((wrap64 (128 + (Int.tmod (wrap64 (Int.tdiv a1 64)) 64))) % 256)] from rfl) (Reps.one (show Kd.M (Kd.int .u8) _ _ _ ((wrap64 (128 + (Int.tmod a1 64))) % 256) [.int .u8 ((wrap64 (128 + (Int.tmod a1 64))) % 256)] from rfl) (Reps.none _ _))))); intro v316 w24 ho25 hb hg_ hnew_; clear hg_ hnew_; (first | rw [← Ny315.out] at ho25 | (simp only [Int.reduceToNat] at ho25; rw [← Ny315.out] at ho25)); have n0_ := Aside0.mk (Kd.R_elder' (by (with_reducible repeat (first | apply Kd.R_alloc | apply Kd.R_drewN | apply Kd.R_drew)); exact HO_0.out) (Kd.R_base ho25) hb); have n1_ := Aside0.mk (Kd.R_lower (Kd.R_new' (Kd.R_newM (M := fun k_ => (P0_ k_ ∨ w.heap.size ≤ k_)) ho25 (by first | exact HK.out.1 | exact (show Kept w _ (fun k_ => P0_ k_) from by repeat (first | (with_reducible first | exact HK.out | apply Kept.alloc | apply Kept.drewN | apply Kept.drew) | exact HK.out)).1) (fun k_ h_ => .inr h_)) (Kd.R_lt (by (with_reducible repeat (first | apply Kd.R_alloc | apply Kd.R_drewN | apply Kd.R_drew)); exact HO_0.out))) (below_size (by repeat (first | (with_reducible first | exact HB.out | apply below_alloc | apply pw_below_drewN | apply below_drew1) | exact HB.out)))); have n2_ := Aside0.mk (Kept.below (S := (fun k_ => P0_ k_)) (by repeat (first | (with_reducible first | exact HK.out | apply Kept.alloc | apply Kept.drewN | apply Kept.drew) | exact HK.out)) hb); have n3_ := Aside0.mk (below_step (by repeat (first | (with_reducible first | exact HB.out | apply below_alloc | apply pw_below_drewN | apply below_drew1) | exact HB.out)) hb); clear HO_0; clear HK; clear HB; have HO_0 := n0_; have HO317 := n1_; have HK := n2_; have HB := n3_; clear n0_ n1_ n2_ n3_; clear hb ho25; obtain ⟨Ao27, co27, eo27⟩ := Kd.R_slice HO317.out; subst eo27) | ((with_reducible refine gate_builtin (b := .append) (xs := #[.tmp 40, .tmp 54]) rfl ?_); at_builtin; refine Kd.R_append_rows (Kd.int .u8) (w0 := w0) w0.heap.size rfl (.tmp 40) (.tmp 54) 34 5 (.int .u8 0) 1 rfl Tryd.underlying34 info5 rfl (by decide) (by omega) u9000_ l0 y315 _ _ _ (fun k_ => (P0_ k_ ∨ w.heap.size ≤ k_) ∧ some k_ ≠ (.slice Ao27 y315.length co27 : Value).ownBlock) (fun _ => False) rfl rfl ?aO ?aR (fun _ _ h => h) (fun _ h => h.elim) ?aF ?aB ?aS ?aL ?_; (case aR => repeat (first | exact (Kd.R_reads' HO317.out).2.2 | (with_reducible refine Kd.C_alloc ?_ _) | (with_reducible refine Kd.C_drewN ?_ _) | (with_reducible refine Kd.C_drew ?_))); (case aB => exact (by repeat (first | (with_reducible first | exact HB.out | apply below_alloc | apply pw_below_drewN | apply below_drew1) | exact HB.out))); (case aF => exact (fun k_ hk => ⟨(.inr (Nat.le_trans (by first | exact HK.out.1 | exact (show Kept w _ (fun k_ => P0_ k_) from by repeat (first | (with_reducible first | exact HK.out | apply Kept.alloc | apply Kept.drewN | apply Kept.drew) | exact HK.out)).1) hk)), Kd.fresh' (Kd.R_lt (by (with_reducible repeat (first | apply Kd.R_alloc | apply Kd.R_drewN | apply Kd.R_drew)); exact HO317.out)) k_ hk⟩)); (case aO => exact (by (with_reducible repeat (first | apply Kd.R_alloc | apply Kd.R_drewN | apply Kd.R_drew)); exact HO_0.out)); (case aS => exact (below_size (by repeat (first | (with_reducible first | exact HB.out | apply below_alloc | apply pw_below_drewN | apply below_drew1) | exact HB.out)))); (case aL => have := LMc23.out; omega); intro v319 w26 ho hb hg hat; rw [← Ny318.out] at ho; have n0_ := Aside0.mk (Kd.R_after (ok := (fun k_ => (P0_ k_ ∨ w.heap.size ≤ k_))) (by (with_reducible repeat (first | apply Kd.R_alloc | apply Kd.R_drewN | apply Kd.R_drew)); exact Kd.R_mono HO317.out (fun _ hk => ⟨hk.1.1, hk.2⟩)) hg hat); have n1_ := Aside0.mk (hb); have n2_ := Aside0.mk (Kept.of_grown (S := (fun k_ => P0_ k_)) hg (by repeat (first | (with_reducible first | exact HK.out | apply Kept.alloc | apply Kept.drewN | apply Kept.drew) | exact HK.out)) (fun k_ e_ => (HO_0.out.1 k_ e_).1)); have n3_ := Aside0.mk (ho); clear HO317; clear HB; clear HK; clear HO_0; have HO317 := n0_; have HB := n1_; have HK := n2_; have HO320 := n3_; clear n0_ n1_ n2_ n3_; clear ho hb hg hat))
                go_ret
                exact ⟨_, by first | rfl | (simp [errX_none, errX_some] <;> rfl) | (simp [*, errX_none, errX_some] <;> rfl), by (with_reducible repeat (first | apply Kd.R_alloc | apply Kd.R_drewN | apply Kd.R_drew)); exact Kd.R_mono HO320.out (fun _ hk => hk.1), by repeat (first | (with_reducible first | exact HB.out | apply below_alloc | apply pw_below_drewN | apply below_drew1) | exact HB.out), by repeat (first | (with_reducible first | exact HK.out | apply Kept.alloc | apply Kept.drewN | apply Kept.drew) | exact HK.out)⟩
              · rw [if_neg c23] at H
                exact absurd H (by simp)
            · rw [if_neg c22] at H
              have c22b0 : decide (a1 < 65536) = false := decide_eq_false c22
              clear c22
              obtain ⟨y321, hy321⟩ : ∃ y_ : List Int, y_ = (([(wrap64 (240 + (wrap64 (Int.tdiv a1 262144)))) % 256, (wrap64 (128 + (Int.tmod (wrap64 (Int.tdiv a1 4096)) 64))) % 256, (wrap64 (128 + (Int.tmod (wrap64 (Int.tdiv a1 64)) 64))) % 256, (wrap64 (128 + (Int.tmod a1 64))) % 256] : List Int)) := ⟨_, rfl⟩
              replace H : (if l0.length + y321.length < 140737488355328 then (some (l0 ++ y321)) else (none)) = some r := by first | (rw [hy321]; with_reducible exact H) | (have H2_ := (Option.bind_some _ _).symm.trans H; rw [hy321]; with_reducible exact H2_) | (have H2_ := (Option.bind_some _ _).symm.trans H; with_reducible exact H2_) | with_reducible exact H | (rw [hy321]; exact H) | exact H
              have Ny321 := Aside0.mk hy321
              clear hy321
              by_cases c28 : l0.length + y321.length < 140737488355328
              · rw [if_pos c28] at H
                have LMc28 := Aside0.mk c28
                clear c28
                obtain ⟨y324, hy324⟩ : ∃ y_ : List Int, y_ = (l0 ++ y321) := ⟨_, rfl⟩
                replace H : (some y324) = some r := by first | (rw [hy324]; with_reducible exact H) | (have H2_ := (Option.bind_some _ _).symm.trans H; rw [hy324]; with_reducible exact H2_) | (have H2_ := (Option.bind_some _ _).symm.trans H; with_reducible exact H2_) | with_reducible exact H | (rw [hy324]; exact H) | exact H
                have Ny324 := Aside0.mk hy324
                clear hy324
                obtain rfl := Option.some.inj H
                go_wp2_with (first | ((with_reducible refine gate_dst (N := 75) rfl ?_); refine Kd.R_lit (Kd.int .u8) _ 5 ?hg (N := 75) ?hd (xs := ([(wrap64 (240 + (wrap64 (Int.tdiv a1 262144)))) % 256, (wrap64 (128 + (Int.tmod (wrap64 (Int.tdiv a1 4096)) 64))) % 256, (wrap64 (128 + (Int.tmod (wrap64 (Int.tdiv a1 64)) 64))) % 256, (wrap64 (128 + (Int.tmod a1 64))) % 256] : List Int)) (inner := [.int .u8 ((wrap64 (240 + (wrap64 (Int.tdiv a1 262144)))) % 256), .int .u8 ((wrap64 (128 + (Int.tmod (wrap64 (Int.tdiv a1 4096)) 64))) % 256), .int .u8 ((wrap64 (128 + (Int.tmod (wrap64 (Int.tdiv a1 64)) 64))) % 256), .int .u8 ((wrap64 (128 + (Int.tmod a1 64))) % 256)]) (ok := fun _ => True) (okp := fun _ => True) ?hr ?hp (fun _ hk => hk) trivial (Below.refl _ _) (Nat.le_refl _) (by simp) ?_; (case hd => rfl); (case hg => rfl); (case hr => first | (go_simp; done) | (go_simp; rfl)); (case hp => exact (Reps.one (show Kd.M (Kd.int .u8) _ _ _ ((wrap64 (240 + (wrap64 (Int.tdiv a1 262144)))) % 256) [.int .u8 ((wrap64 (240 + (wrap64 (Int.tdiv a1 262144)))) % 256)] from rfl) (Reps.one (show Kd.M (Kd.int .u8) _ _ _ ((wrap64 (128 + (Int.tmod (wrap64 (Int.tdiv a1 4096)) 64))) % 256) [.int .u8 ((wrap64 (128 + (Int.tmod (wrap64 (Int.tdiv a1 4096)) 64))) % 256)] from rfl) (Reps.one (show Kd.M (Kd.int .u8) _ _ _ ((wrap64 (128 + (Int.tmod (wrap64 (Int.tdiv a1 64)) 64))) % 256) [.int .u8 ((wrap64 (128 + (Int.tmod (wrap64 (Int.tdiv a1 64)) 64))) % 256)] from rfl) (Reps.one (show Kd.M (Kd.int .u8) _ _ _ ((wrap64 (128 + (Int.tmod a1 64))) % 256) [.int .u8 ((wrap64 (128 + (Int.tmod a1 64))) % 256)] from rfl) (Reps.none _ _)))))); intro v322 w29 ho30 hb hg_ hnew_; clear hg_ hnew_; (first | rw [← Ny321.out] at ho30 | (simp only [Int.reduceToNat] at ho30; rw [← Ny321.out] at ho30)); have n0_ := Aside0.mk (Kd.R_elder' (by (with_reducible repeat (first | apply Kd.R_alloc | apply Kd.R_drewN | apply Kd.R_drew)); exact HO_0.out) (Kd.R_base ho30) hb); have n1_ := Aside0.mk (Kd.R_lower (Kd.R_new' (Kd.R_newM (M := fun k_ => (P0_ k_ ∨ w.heap.size ≤ k_)) ho30 (by first | exact HK.out.1 | exact (show Kept w _ (fun k_ => P0_ k_) from by repeat (first | (with_reducible first | exact HK.out | apply Kept.alloc | apply Kept.drewN | apply Kept.drew) | exact HK.out)).1) (fun k_ h_ => .inr h_)) (Kd.R_lt (by (with_reducible repeat (first | apply Kd.R_alloc | apply Kd.R_drewN | apply Kd.R_drew)); exact HO_0.out))) (below_size (by repeat (first | (with_reducible first | exact HB.out | apply below_alloc | apply pw_below_drewN | apply below_drew1) | exact HB.out)))); have n2_ := Aside0.mk (Kept.below (S := (fun k_ => P0_ k_)) (by repeat (first | (with_reducible first | exact HK.out | apply Kept.alloc | apply Kept.drewN | apply Kept.drew) | exact HK.out)) hb); have n3_ := Aside0.mk (below_step (by repeat (first | (with_reducible first | exact HB.out | apply below_alloc | apply pw_below_drewN | apply below_drew1) | exact HB.out)) hb); clear HO_0; clear HK; clear HB; have HO_0 := n0_; have HO323 := n1_; have HK := n2_; have HB := n3_; clear n0_ n1_ n2_ n3_; clear hb ho30; obtain ⟨Ao32, co32, eo32⟩ := Kd.R_slice HO323.out; subst eo32) | ((with_reducible refine gate_builtin (b := .append) (xs := #[.tmp 56, .tmp 75]) rfl ?_); at_builtin; refine Kd.R_append_rows (Kd.int .u8) (w0 := w0) w0.heap.size rfl (.tmp 56) (.tmp 75) 34 5 (.int .u8 0) 1 rfl Tryd.underlying34 info5 rfl (by decide) (by omega) u9000_ l0 y321 _ _ _ (fun k_ => (P0_ k_ ∨ w.heap.size ≤ k_) ∧ some k_ ≠ (.slice Ao32 y321.length co32 : Value).ownBlock) (fun _ => False) rfl rfl ?aO ?aR (fun _ _ h => h) (fun _ h => h.elim) ?aF ?aB ?aS ?aL ?_; (case aR => repeat (first | exact (Kd.R_reads' HO323.out).2.2 | (with_reducible refine Kd.C_alloc ?_ _) | (with_reducible refine Kd.C_drewN ?_ _) | (with_reducible refine Kd.C_drew ?_))); (case aB => exact (by repeat (first | (with_reducible first | exact HB.out | apply below_alloc | apply pw_below_drewN | apply below_drew1) | exact HB.out))); (case aF => exact (fun k_ hk => ⟨(.inr (Nat.le_trans (by first | exact HK.out.1 | exact (show Kept w _ (fun k_ => P0_ k_) from by repeat (first | (with_reducible first | exact HK.out | apply Kept.alloc | apply Kept.drewN | apply Kept.drew) | exact HK.out)).1) hk)), Kd.fresh' (Kd.R_lt (by (with_reducible repeat (first | apply Kd.R_alloc | apply Kd.R_drewN | apply Kd.R_drew)); exact HO323.out)) k_ hk⟩)); (case aO => exact (by (with_reducible repeat (first | apply Kd.R_alloc | apply Kd.R_drewN | apply Kd.R_drew)); exact HO_0.out)); (case aS => exact (below_size (by repeat (first | (with_reducible first | exact HB.out | apply below_alloc | apply pw_below_drewN | apply below_drew1) | exact HB.out)))); (case aL => have := LMc28.out; omega); intro v325 w31 ho hb hg hat; rw [← Ny324.out] at ho; have n0_ := Aside0.mk (Kd.R_after (ok := (fun k_ => (P0_ k_ ∨ w.heap.size ≤ k_))) (by (with_reducible repeat (first | apply Kd.R_alloc | apply Kd.R_drewN | apply Kd.R_drew)); exact Kd.R_mono HO323.out (fun _ hk => ⟨hk.1.1, hk.2⟩)) hg hat); have n1_ := Aside0.mk (hb); have n2_ := Aside0.mk (Kept.of_grown (S := (fun k_ => P0_ k_)) hg (by repeat (first | (with_reducible first | exact HK.out | apply Kept.alloc | apply Kept.drewN | apply Kept.drew) | exact HK.out)) (fun k_ e_ => (HO_0.out.1 k_ e_).1)); have n3_ := Aside0.mk (ho); clear HO323; clear HB; clear HK; clear HO_0; have HO323 := n0_; have HB := n1_; have HK := n2_; have HO326 := n3_; clear n0_ n1_ n2_ n3_; clear ho hb hg hat))
                go_ret
                exact ⟨_, by first | rfl | (simp [errX_none, errX_some] <;> rfl) | (simp [*, errX_none, errX_some] <;> rfl), by (with_reducible repeat (first | apply Kd.R_alloc | apply Kd.R_drewN | apply Kd.R_drew)); exact Kd.R_mono HO326.out (fun _ hk => hk.1), by repeat (first | (with_reducible first | exact HB.out | apply below_alloc | apply pw_below_drewN | apply below_drew1) | exact HB.out), by repeat (first | (with_reducible first | exact HK.out | apply Kept.alloc | apply Kept.drewN | apply Kept.drew) | exact HK.out)⟩
              · rw [if_neg c28] at H
                exact absurd H (by simp)


/-! ### spec_Unquote: function 41 -/
def spec_Unquote.l0 : Nat → List Int → ByteArray → Int → Option (ByteArray)
  | 0, _, _, _ => none
  | k + 1, x3, x4, x5 => if x5 < (x4.size : Int) then (if 0 ≤ x5 then (if (bt x4 x5) = 92 then ((spec_unit.f k x4 x5).bind fun bt330 => (if bt330.2 = true then ((spec_unit.f k x4 (wrap64 (x5 + 6))).bind fun bt336 => (if bt336.2 = true then ((spec_high.f bt330.1).bind fun t338 => (if t338 = true then ((spec_low.f bt336.1).bind fun t339 => (if t339 = true then ((spec_appendUTF8.f k x3 (wrap64 ((wrap64 (65536 + (wrap64 ((wrap64 (bt330.1 - 55296)) * 1024)))) + (wrap64 (bt336.1 - 56320))))).bind fun t340 => (spec_Unquote.l0 k t340 x4 (wrap64 ((wrap64 (x5 + 6)) + 6)))) else ((spec_appendUTF8.f k x3 bt330.1).bind fun t343 => (spec_Unquote.l0 k t343 x4 (wrap64 (x5 + 6)))))) else ((spec_appendUTF8.f k x3 bt330.1).bind fun t346 => (spec_Unquote.l0 k t346 x4 (wrap64 (x5 + 6)))))) else ((spec_appendUTF8.f k x3 bt330.1).bind fun t349 => (spec_Unquote.l0 k t349 x4 (wrap64 (x5 + 6)))))) else (if 0 ≤ (wrap64 (x5 + 1)) then (if (wrap64 (x5 + 1)) < (x4.size : Int) then ((spec_short.f (bt x4 (wrap64 (x5 + 1)))).bind fun t332 => (if x3.length < 140737488355328 then (spec_Unquote.l0 k (x3 ++ [t332]) x4 (wrap64 (x5 + 2))) else (none))) else (none)) else (none)))) else (if x3.length < 140737488355328 then (spec_Unquote.l0 k (x3 ++ [bt x4 x5]) x4 (wrap64 (x5 + 1))) else (none))) else (none)) else (some (strOfNums x3))
def spec_Unquote.f (k : Nat) (a0 : ByteArray) : Option (ByteArray) := if 1 ≤ (wrap64 ((a0.size : Int) - 1)) then (if (wrap64 ((a0.size : Int) - 1)) ≤ (a0.size : Int) then (spec_Unquote.l0 k ([] : List Int) (a0.extract 1 ((wrap64 ((a0.size : Int) - 1)) : Int).toNat) 0) else (none)) else (none)
theorem spec_Unquote.mono_l : ∀ k, (∀ y0 y1 y2, LeO (spec_Unquote.l0 k y0 y1 y2) (spec_Unquote.l0 (k + 1) y0 y1 y2))
  | 0 => fun _ _ _ r h => by simp [spec_Unquote.l0] at h
  | k + 1 => by
    have ih0 := spec_Unquote.mono_l k
    · intro y0 y1 y2
      unfold spec_Unquote.l0
      repeat' first
      | (with_reducible exact ih0 _ _ _)
      | (with_reducible exact spec_appendUTF8.mono _ _ _)
      | (with_reducible exact spec_unit.mono _ _ _)
      | (with_reducible exact LeO.refl _)
      | (with_reducible exact LeO.none _)
      | (with_reducible refine LeO.ite ?_ ?_)
      | (with_reducible refine LeO.bind ?_ (fun _ => ?_))
      | exact ih0 _ _ _
      | exact spec_appendUTF8.mono _ _ _
      | exact spec_unit.mono _ _ _
      | exact LeO.none _
      | refine LeO.ite ?_ ?_
      | refine LeO.bind ?_ (fun _ => ?_)
theorem spec_Unquote.mono : ∀ a0 k, LeO (spec_Unquote.f k a0) (spec_Unquote.f (k + 1) a0) := by
  intro a0 k
  have ih0 := spec_Unquote.mono_l k
  unfold spec_Unquote.f
  repeat' first
      | (with_reducible exact ih0 _ _ _)
      | (with_reducible exact spec_appendUTF8.mono _ _ _)
      | (with_reducible exact spec_unit.mono _ _ _)
      | (with_reducible exact LeO.refl _)
      | (with_reducible exact LeO.none _)
      | (with_reducible refine LeO.ite ?_ ?_)
      | (with_reducible refine LeO.bind ?_ (fun _ => ?_))
      | exact ih0 _ _ _
      | exact spec_appendUTF8.mono _ _ _
      | exact spec_unit.mono _ _ _
      | exact LeO.none _
      | refine LeO.ite ?_ ?_
      | refine LeO.bind ?_ (fun _ => ?_)
set_option maxHeartbeats 8000000 in
set_option maxRecDepth 100000 in
theorem spec_Unquote.calls (k : Nat) (a0 : ByteArray) (r : ByteArray) (w : World) (h : spec_Unquote.f k a0 = some r) :
    Calls Tryd.prog 41 #[.string a0] w fun e w' => e = .returned (.string r) ∧ Below w.heap.size w w' := by
  have HB := Aside0.mk (Below.refl w.heap.size w)
  have H : (if 1 ≤ (wrap64 ((a0.size : Int) - 1)) then (if (wrap64 ((a0.size : Int) - 1)) ≤ (a0.size : Int) then (spec_Unquote.l0 k ([] : List Int) (a0.extract 1 ((wrap64 ((a0.size : Int) - 1)) : Int).toNat) 0) else (none)) else (none)) = some r := h
  clear h
  by_cases c2 : 1 ≤ (wrap64 ((a0.size : Int) - 1))
  · rw [if_pos c2] at H
    have c2b0 := eq_true c2
    have c2b1 : decide (1 ≤ (wrap64 ((a0.size : Int) - 1))) = true := decide_eq_true c2
    clear c2
    by_cases c3 : (wrap64 ((a0.size : Int) - 1)) ≤ (a0.size : Int)
    · rw [if_pos c3] at H
      have c3b0 := eq_true c3
      have c3b1 : decide ((wrap64 ((a0.size : Int) - 1)) ≤ (a0.size : Int)) = true := decide_eq_true c3
      clear c3
      have H' := Aside0.mk H
      clear H
      go_enter Tryd.func41, Tryd.ntmps41
      go_wp2
      (try simp only [Act.put, List.setIfInBounds_toArray, List.set_cons_zero, List.set_cons_succ])
      go_loopg [3, 5] k (fun kq v3 v5 w' => ∃ (x3_1 : List Int) (x5_1 : Int), v5 = .int .i64 x5_1 ∧ Aside0 (spec_Unquote.l0 kq x3_1 (a0.extract 1 ((wrap64 ((a0.size : Int) - 1)) : Int).toNat) x5_1 = some r) ∧ Aside0 (kq ≤ k) ∧ Aside0 (Kd.R (Kd.int .u8) 5 w' w.heap.size (fun _ => True) v3 x3_1) ∧ Aside0 (Below w.heap.size w w'))
      case atStart => exact ⟨(([] : List Int)), (0), (by first | rfl | (simp; done) | (simp [*]; done)), H', ⟨Nat.le_refl _⟩, ⟨by first | exact Kd.R_nil _ _ _ _ _ | exact Kd.N_nil _ _ _ _ _ | exact Kd.V_nil _ _ _ _ _ | exact Kd.Q_nil _ _ _ _ _ | exact Kd.S_nil _ _ _ _ _⟩, ⟨by repeat (first | (with_reducible first | exact HB.out | apply below_alloc | apply pw_below_drewN | apply below_drew1) | exact HB.out)⟩⟩
      case round =>
        clear H'
        try clear c2
        try clear c2b0
        try clear c2b1
        try clear p2
        try clear c3
        try clear c3b0
        try clear c3b1
        obtain ⟨x3_1, x5_1, rfl, HA, HK1, HO_3, HB⟩ := hrel
        cases gk with
        | zero => exact absurd HA.out (by simp [spec_Unquote.l0])
        | succ k1 =>
          have H := HA.out
          clear HA
          simp only [spec_Unquote.l0] at H
          by_cases c4 : x5_1 < ((a0.extract 1 ((wrap64 ((a0.size : Int) - 1)) : Int).toNat).size : Int)
          · rw [if_pos c4] at H
            have c4b0 : decide (x5_1 < ((a0.extract 1 ((wrap64 ((a0.size : Int) - 1)) : Int).toNat).size : Int)) = true := decide_eq_true c4
            have c4e0 := c4b0
            (try simp only [ByteArray.size_extract, Nat.min_self] at c4e0)
            (first | have c4f0 := of_decide_eq_true c4e0 | have c4f0 := of_decide_eq_false c4e0 | skip)
            clear c4
            by_cases c5 : 0 ≤ x5_1
            · rw [if_pos c5] at H
              have c5b0 : decide (0 ≤ x5_1) = true := decide_eq_true c5
              clear c5
              by_cases c7 : (bt (a0.extract 1 ((wrap64 ((a0.size : Int) - 1)) : Int).toNat) x5_1) = 92
              · rw [if_pos c7] at H
                have c7b0 : ((bt (a0.extract 1 ((wrap64 ((a0.size : Int) - 1)) : Int).toNat) x5_1) == 92) = true := beq_iff_eq.mpr c7
                have c7b1 : ((bt (a0.extract 1 ((wrap64 ((a0.size : Int) - 1)) : Int).toNat) x5_1) != 92) = false := bne_eq_false_iff_eq.mpr c7
                clear c7
                replace H := Option.bind_eq_some_iff.mp H
                obtain ⟨⟨t330, t331⟩, A80, H⟩ := H
                replace H : (if t331 = true then ((spec_unit.f k1 (a0.extract 1 ((wrap64 ((a0.size : Int) - 1)) : Int).toNat) (wrap64 (x5_1 + 6))).bind fun bt336 => (if bt336.2 = true then ((spec_high.f t330).bind fun t338 => (if t338 = true then ((spec_low.f bt336.1).bind fun t339 => (if t339 = true then ((spec_appendUTF8.f k1 x3_1 (wrap64 ((wrap64 (65536 + (wrap64 ((wrap64 (t330 - 55296)) * 1024)))) + (wrap64 (bt336.1 - 56320))))).bind fun t340 => (spec_Unquote.l0 k1 t340 (a0.extract 1 ((wrap64 ((a0.size : Int) - 1)) : Int).toNat) (wrap64 ((wrap64 (x5_1 + 6)) + 6)))) else ((spec_appendUTF8.f k1 x3_1 t330).bind fun t343 => (spec_Unquote.l0 k1 t343 (a0.extract 1 ((wrap64 ((a0.size : Int) - 1)) : Int).toNat) (wrap64 (x5_1 + 6)))))) else ((spec_appendUTF8.f k1 x3_1 t330).bind fun t346 => (spec_Unquote.l0 k1 t346 (a0.extract 1 ((wrap64 ((a0.size : Int) - 1)) : Int).toNat) (wrap64 (x5_1 + 6)))))) else ((spec_appendUTF8.f k1 x3_1 t330).bind fun t349 => (spec_Unquote.l0 k1 t349 (a0.extract 1 ((wrap64 ((a0.size : Int) - 1)) : Int).toNat) (wrap64 (x5_1 + 6)))))) else (if 0 ≤ (wrap64 (x5_1 + 1)) then (if (wrap64 (x5_1 + 1)) < ((a0.extract 1 ((wrap64 ((a0.size : Int) - 1)) : Int).toNat).size : Int) then ((spec_short.f (bt (a0.extract 1 ((wrap64 ((a0.size : Int) - 1)) : Int).toNat) (wrap64 (x5_1 + 1)))).bind fun t332 => (if x3_1.length < 140737488355328 then (spec_Unquote.l0 k1 (x3_1 ++ [t332]) (a0.extract 1 ((wrap64 ((a0.size : Int) - 1)) : Int).toNat) (wrap64 (x5_1 + 2))) else (none))) else (none)) else (none))) = some r := H
                have A8 := Aside0.mk A80
                clear A80
                by_cases c9 : t331 = true
                · subst c9
                  have H1 : ((spec_unit.f k1 (a0.extract 1 ((wrap64 ((a0.size : Int) - 1)) : Int).toNat) (wrap64 (x5_1 + 6))).bind fun bt336 => (if bt336.2 = true then ((spec_high.f t330).bind fun t338 => (if t338 = true then ((spec_low.f bt336.1).bind fun t339 => (if t339 = true then ((spec_appendUTF8.f k1 x3_1 (wrap64 ((wrap64 (65536 + (wrap64 ((wrap64 (t330 - 55296)) * 1024)))) + (wrap64 (bt336.1 - 56320))))).bind fun t340 => (spec_Unquote.l0 k1 t340 (a0.extract 1 ((wrap64 ((a0.size : Int) - 1)) : Int).toNat) (wrap64 ((wrap64 (x5_1 + 6)) + 6)))) else ((spec_appendUTF8.f k1 x3_1 t330).bind fun t343 => (spec_Unquote.l0 k1 t343 (a0.extract 1 ((wrap64 ((a0.size : Int) - 1)) : Int).toNat) (wrap64 (x5_1 + 6)))))) else ((spec_appendUTF8.f k1 x3_1 t330).bind fun t346 => (spec_Unquote.l0 k1 t346 (a0.extract 1 ((wrap64 ((a0.size : Int) - 1)) : Int).toNat) (wrap64 (x5_1 + 6)))))) else ((spec_appendUTF8.f k1 x3_1 t330).bind fun t349 => (spec_Unquote.l0 k1 t349 (a0.extract 1 ((wrap64 ((a0.size : Int) - 1)) : Int).toNat) (wrap64 (x5_1 + 6)))))) = some r := by rw [if_pos rfl] at H; exact H
                  clear H
                  have H := H1
                  clear H1
                  replace H := Option.bind_eq_some_iff.mp H
                  obtain ⟨⟨t336, t337⟩, A100, H⟩ := H
                  replace H : (if t337 = true then ((spec_high.f t330).bind fun t338 => (if t338 = true then ((spec_low.f t336).bind fun t339 => (if t339 = true then ((spec_appendUTF8.f k1 x3_1 (wrap64 ((wrap64 (65536 + (wrap64 ((wrap64 (t330 - 55296)) * 1024)))) + (wrap64 (t336 - 56320))))).bind fun t340 => (spec_Unquote.l0 k1 t340 (a0.extract 1 ((wrap64 ((a0.size : Int) - 1)) : Int).toNat) (wrap64 ((wrap64 (x5_1 + 6)) + 6)))) else ((spec_appendUTF8.f k1 x3_1 t330).bind fun t343 => (spec_Unquote.l0 k1 t343 (a0.extract 1 ((wrap64 ((a0.size : Int) - 1)) : Int).toNat) (wrap64 (x5_1 + 6)))))) else ((spec_appendUTF8.f k1 x3_1 t330).bind fun t346 => (spec_Unquote.l0 k1 t346 (a0.extract 1 ((wrap64 ((a0.size : Int) - 1)) : Int).toNat) (wrap64 (x5_1 + 6)))))) else ((spec_appendUTF8.f k1 x3_1 t330).bind fun t349 => (spec_Unquote.l0 k1 t349 (a0.extract 1 ((wrap64 ((a0.size : Int) - 1)) : Int).toNat) (wrap64 (x5_1 + 6))))) = some r := H
                  have A10 := Aside0.mk A100
                  clear A100
                  by_cases c11 : t337 = true
                  · subst c11
                    have H1 : ((spec_high.f t330).bind fun t338 => (if t338 = true then ((spec_low.f t336).bind fun t339 => (if t339 = true then ((spec_appendUTF8.f k1 x3_1 (wrap64 ((wrap64 (65536 + (wrap64 ((wrap64 (t330 - 55296)) * 1024)))) + (wrap64 (t336 - 56320))))).bind fun t340 => (spec_Unquote.l0 k1 t340 (a0.extract 1 ((wrap64 ((a0.size : Int) - 1)) : Int).toNat) (wrap64 ((wrap64 (x5_1 + 6)) + 6)))) else ((spec_appendUTF8.f k1 x3_1 t330).bind fun t343 => (spec_Unquote.l0 k1 t343 (a0.extract 1 ((wrap64 ((a0.size : Int) - 1)) : Int).toNat) (wrap64 (x5_1 + 6)))))) else ((spec_appendUTF8.f k1 x3_1 t330).bind fun t346 => (spec_Unquote.l0 k1 t346 (a0.extract 1 ((wrap64 ((a0.size : Int) - 1)) : Int).toNat) (wrap64 (x5_1 + 6)))))) = some r := by rw [if_pos rfl] at H; exact H
                    clear H
                    have H := H1
                    clear H1
                    replace H := Option.bind_eq_some_iff.mp H
                    obtain ⟨t338, A120, H⟩ := H
                    replace H : (if t338 = true then ((spec_low.f t336).bind fun t339 => (if t339 = true then ((spec_appendUTF8.f k1 x3_1 (wrap64 ((wrap64 (65536 + (wrap64 ((wrap64 (t330 - 55296)) * 1024)))) + (wrap64 (t336 - 56320))))).bind fun t340 => (spec_Unquote.l0 k1 t340 (a0.extract 1 ((wrap64 ((a0.size : Int) - 1)) : Int).toNat) (wrap64 ((wrap64 (x5_1 + 6)) + 6)))) else ((spec_appendUTF8.f k1 x3_1 t330).bind fun t343 => (spec_Unquote.l0 k1 t343 (a0.extract 1 ((wrap64 ((a0.size : Int) - 1)) : Int).toNat) (wrap64 (x5_1 + 6)))))) else ((spec_appendUTF8.f k1 x3_1 t330).bind fun t346 => (spec_Unquote.l0 k1 t346 (a0.extract 1 ((wrap64 ((a0.size : Int) - 1)) : Int).toNat) (wrap64 (x5_1 + 6))))) = some r := H
                    have A12 := Aside0.mk A120
                    clear A120
                    by_cases c13 : t338 = true
                    · subst c13
                      have H1 : ((spec_low.f t336).bind fun t339 => (if t339 = true then ((spec_appendUTF8.f k1 x3_1 (wrap64 ((wrap64 (65536 + (wrap64 ((wrap64 (t330 - 55296)) * 1024)))) + (wrap64 (t336 - 56320))))).bind fun t340 => (spec_Unquote.l0 k1 t340 (a0.extract 1 ((wrap64 ((a0.size : Int) - 1)) : Int).toNat) (wrap64 ((wrap64 (x5_1 + 6)) + 6)))) else ((spec_appendUTF8.f k1 x3_1 t330).bind fun t343 => (spec_Unquote.l0 k1 t343 (a0.extract 1 ((wrap64 ((a0.size : Int) - 1)) : Int).toNat) (wrap64 (x5_1 + 6)))))) = some r := by rw [if_pos rfl] at H; exact H
                      clear H
                      have H := H1
                      clear H1
                      replace H := Option.bind_eq_some_iff.mp H
                      obtain ⟨t339, A140, H⟩ := H
                      replace H : (if t339 = true then ((spec_appendUTF8.f k1 x3_1 (wrap64 ((wrap64 (65536 + (wrap64 ((wrap64 (t330 - 55296)) * 1024)))) + (wrap64 (t336 - 56320))))).bind fun t340 => (spec_Unquote.l0 k1 t340 (a0.extract 1 ((wrap64 ((a0.size : Int) - 1)) : Int).toNat) (wrap64 ((wrap64 (x5_1 + 6)) + 6)))) else ((spec_appendUTF8.f k1 x3_1 t330).bind fun t343 => (spec_Unquote.l0 k1 t343 (a0.extract 1 ((wrap64 ((a0.size : Int) - 1)) : Int).toNat) (wrap64 (x5_1 + 6))))) = some r := H
                      have A14 := Aside0.mk A140
                      clear A140
                      by_cases c15 : t339 = true
                      · subst c15
                        have H1 : ((spec_appendUTF8.f k1 x3_1 (wrap64 ((wrap64 (65536 + (wrap64 ((wrap64 (t330 - 55296)) * 1024)))) + (wrap64 (t336 - 56320))))).bind fun t340 => (spec_Unquote.l0 k1 t340 (a0.extract 1 ((wrap64 ((a0.size : Int) - 1)) : Int).toNat) (wrap64 ((wrap64 (x5_1 + 6)) + 6)))) = some r := by rw [if_pos rfl] at H; exact H
                        clear H
                        have H := H1
                        clear H1
                        replace H := Option.bind_eq_some_iff.mp H
                        obtain ⟨t340, A160, H⟩ := H
                        replace H : (spec_Unquote.l0 k1 t340 (a0.extract 1 ((wrap64 ((a0.size : Int) - 1)) : Int).toNat) (wrap64 ((wrap64 (x5_1 + 6)) + 6))) = some r := H
                        have A16 := Aside0.mk A160
                        clear A160
                        have H' := Aside0.mk H
                        clear H
                        have p6 : 0 ≤ (x5_1 : Int) := of_decide_eq_true (by first | (with_reducible assumption) | assumption)
                        have q6 : x5_1 < ((a0.extract 1 ((wrap64 ((a0.size : Int) - 1)) : Int).toNat).size : Int) := of_decide_eq_true (by first | (with_reducible assumption) | assumption)
                        have hx6 := bt_at (a0.extract 1 ((wrap64 ((a0.size : Int) - 1)) : Int).toNat) x5_1
                        replace p6 := eq_true p6
                        replace q6 := eq_true q6
                        go_wp2_with (first | ((with_reducible refine gate_callee (f := 20) rfl ?_); refine goesL_ (some 34) rfl rfl Tryd.func20 (by kernel_rfl) rfl #[.string (a0.extract 1 ((wrap64 ((a0.size : Int) - 1)) : Int).toNat), .int .i64 x5_1] rfl (by (try simp only [List.map_toArray, List.map_cons, List.map_nil]); first | done | rfl | (simp only [List.length_drop, List.length_take]; rfl)) ?_; (with_reducible refine (spec_unit.calls k1 (a0.extract 1 ((wrap64 ((a0.size : Int) - 1)) : Int).toNat) x5_1 t330 true _ A8.out).mono ?_); rintro e w' ⟨rfl, ⟨nd, rfl⟩⟩; refine ⟨_, rfl, ?_⟩) | ((with_reducible refine gate_callee (f := 20) rfl ?_); refine goesL_ (some 54) rfl rfl Tryd.func20 (by kernel_rfl) rfl #[.string (a0.extract 1 ((wrap64 ((a0.size : Int) - 1)) : Int).toNat), .int .i64 (wrap64 (x5_1 + 6))] rfl (by (try simp only [List.map_toArray, List.map_cons, List.map_nil]); first | done | rfl | (simp only [List.length_drop, List.length_take]; rfl)) ?_; (with_reducible refine (spec_unit.calls k1 (a0.extract 1 ((wrap64 ((a0.size : Int) - 1)) : Int).toNat) (wrap64 (x5_1 + 6)) t336 true _ A10.out).mono ?_); rintro e w' ⟨rfl, ⟨nd, rfl⟩⟩; refine ⟨_, rfl, ?_⟩) | (go_at_call 21; (with_reducible refine (spec_high.calls t330 true _ A12.out).mono ?_); rintro e w' ⟨rfl, ⟨nd, rfl⟩⟩) | (go_at_call 22; (with_reducible refine (spec_low.calls t336 true _ A14.out).mono ?_); rintro e w' ⟨rfl, ⟨nd, rfl⟩⟩; obtain ⟨Ao17, co17, eo17⟩ := Kd.R_slice HO_3.out; subst eo17) | ((with_reducible refine gate_callee (f := 65) rfl ?_); refine goesL_ (some 77) rfl rfl Tryd.func65 (by kernel_rfl) rfl #[.slice Ao17 x3_1.length co17, .int .i64 (wrap64 ((wrap64 (65536 + (wrap64 ((wrap64 (t330 - 55296)) * 1024)))) + (wrap64 (t336 - 56320))))] rfl (by (try simp only [List.map_toArray, List.map_cons, List.map_nil]); first | done | rfl | (simp only [List.length_drop, List.length_take]; rfl)) ?_; (with_reducible refine (spec_appendUTF8.calls k1 (fun k_ => some k_ = (.slice Ao17 x3_1.length co17 : Value).ownBlock) (.slice Ao17 x3_1.length co17) x3_1 (wrap64 ((wrap64 (65536 + (wrap64 ((wrap64 (t330 - 55296)) * 1024)))) + (wrap64 (t336 - 56320)))) t340 w _ ?side1 ?side2 A16.out).mono ?_); (case side1 => repeat (first | (with_reducible first | exact HB.out | apply below_alloc | apply pw_below_drewN | apply below_drew1) | exact HB.out)); (case side2 => exact Kd.R_tight rfl HO_3.out); rintro e w18 ⟨v341, rfl, ho0, hb, hkp⟩; refine ⟨_, rfl, ?_⟩; have n0_ := Aside0.mk (Kd.R_mono (ok' := fun k_ => True) ho0 (fun k_ hk_ => trivial)); have n1_ := Aside0.mk (hb); clear HB; clear HO_3; have HO342 := n0_; have HB := n1_; clear n0_ n1_; (try clear hb); (try clear hkp); (try clear ho0)))
                        go_roundg k1
                        case measure => have := HK1.out; omega
                        case rel => exact ⟨(t340), (wrap64 ((wrap64 (x5_1 + 6)) + 6)), (by first | rfl | (simp; done) | (simp [*]; done)), H', ⟨by have := HK1.out; omega⟩, ⟨by (with_reducible repeat (first | apply Kd.R_alloc | apply Kd.R_drewN | apply Kd.R_drew)); exact HO342.out⟩, ⟨by repeat (first | (with_reducible first | exact HB.out | apply below_alloc | apply pw_below_drewN | apply below_drew1) | exact HB.out)⟩⟩
                      · replace c15 := Bool.eq_false_iff.mpr c15
                        subst c15
                        have H1 : ((spec_appendUTF8.f k1 x3_1 t330).bind fun t343 => (spec_Unquote.l0 k1 t343 (a0.extract 1 ((wrap64 ((a0.size : Int) - 1)) : Int).toNat) (wrap64 (x5_1 + 6)))) = some r := by rw [if_neg (show ¬ (false = true) by decide)] at H; exact H
                        clear H
                        have H := H1
                        clear H1
                        replace H := Option.bind_eq_some_iff.mp H
                        obtain ⟨t343, A190, H⟩ := H
                        replace H : (spec_Unquote.l0 k1 t343 (a0.extract 1 ((wrap64 ((a0.size : Int) - 1)) : Int).toNat) (wrap64 (x5_1 + 6))) = some r := H
                        have A19 := Aside0.mk A190
                        clear A190
                        have H' := Aside0.mk H
                        clear H
                        have p6 : 0 ≤ (x5_1 : Int) := of_decide_eq_true (by first | (with_reducible assumption) | assumption)
                        have q6 : x5_1 < ((a0.extract 1 ((wrap64 ((a0.size : Int) - 1)) : Int).toNat).size : Int) := of_decide_eq_true (by first | (with_reducible assumption) | assumption)
                        have hx6 := bt_at (a0.extract 1 ((wrap64 ((a0.size : Int) - 1)) : Int).toNat) x5_1
                        replace p6 := eq_true p6
                        replace q6 := eq_true q6
                        go_wp2_with (first | ((with_reducible refine gate_callee (f := 20) rfl ?_); refine goesL_ (some 34) rfl rfl Tryd.func20 (by kernel_rfl) rfl #[.string (a0.extract 1 ((wrap64 ((a0.size : Int) - 1)) : Int).toNat), .int .i64 x5_1] rfl (by (try simp only [List.map_toArray, List.map_cons, List.map_nil]); first | done | rfl | (simp only [List.length_drop, List.length_take]; rfl)) ?_; (with_reducible refine (spec_unit.calls k1 (a0.extract 1 ((wrap64 ((a0.size : Int) - 1)) : Int).toNat) x5_1 t330 true _ A8.out).mono ?_); rintro e w' ⟨rfl, ⟨nd, rfl⟩⟩; refine ⟨_, rfl, ?_⟩) | ((with_reducible refine gate_callee (f := 20) rfl ?_); refine goesL_ (some 54) rfl rfl Tryd.func20 (by kernel_rfl) rfl #[.string (a0.extract 1 ((wrap64 ((a0.size : Int) - 1)) : Int).toNat), .int .i64 (wrap64 (x5_1 + 6))] rfl (by (try simp only [List.map_toArray, List.map_cons, List.map_nil]); first | done | rfl | (simp only [List.length_drop, List.length_take]; rfl)) ?_; (with_reducible refine (spec_unit.calls k1 (a0.extract 1 ((wrap64 ((a0.size : Int) - 1)) : Int).toNat) (wrap64 (x5_1 + 6)) t336 true _ A10.out).mono ?_); rintro e w' ⟨rfl, ⟨nd, rfl⟩⟩; refine ⟨_, rfl, ?_⟩) | (go_at_call 21; (with_reducible refine (spec_high.calls t330 true _ A12.out).mono ?_); rintro e w' ⟨rfl, ⟨nd, rfl⟩⟩) | (go_at_call 22; (with_reducible refine (spec_low.calls t336 false _ A14.out).mono ?_); rintro e w' ⟨rfl, ⟨nd, rfl⟩⟩; obtain ⟨Ao20, co20, eo20⟩ := Kd.R_slice HO_3.out; subst eo20) | ((with_reducible refine gate_callee (f := 65) rfl ?_); refine goesL_ (some 77) rfl rfl Tryd.func65 (by kernel_rfl) rfl #[.slice Ao20 x3_1.length co20, .int .i64 t330] rfl (by (try simp only [List.map_toArray, List.map_cons, List.map_nil]); first | done | rfl | (simp only [List.length_drop, List.length_take]; rfl)) ?_; (with_reducible refine (spec_appendUTF8.calls k1 (fun k_ => some k_ = (.slice Ao20 x3_1.length co20 : Value).ownBlock) (.slice Ao20 x3_1.length co20) x3_1 t330 t343 w _ ?side1 ?side2 A19.out).mono ?_); (case side1 => repeat (first | (with_reducible first | exact HB.out | apply below_alloc | apply pw_below_drewN | apply below_drew1) | exact HB.out)); (case side2 => exact Kd.R_tight rfl HO_3.out); rintro e w21 ⟨v344, rfl, ho0, hb, hkp⟩; refine ⟨_, rfl, ?_⟩; have n0_ := Aside0.mk (Kd.R_mono (ok' := fun k_ => True) ho0 (fun k_ hk_ => trivial)); have n1_ := Aside0.mk (hb); clear HB; clear HO_3; have HO345 := n0_; have HB := n1_; clear n0_ n1_; (try clear hb); (try clear hkp); (try clear ho0)))
                        go_roundg k1
                        case measure => have := HK1.out; omega
                        case rel => exact ⟨(t343), (wrap64 (x5_1 + 6)), (by first | rfl | (simp; done) | (simp [*]; done)), H', ⟨by have := HK1.out; omega⟩, ⟨by (with_reducible repeat (first | apply Kd.R_alloc | apply Kd.R_drewN | apply Kd.R_drew)); exact HO345.out⟩, ⟨by repeat (first | (with_reducible first | exact HB.out | apply below_alloc | apply pw_below_drewN | apply below_drew1) | exact HB.out)⟩⟩
                    · replace c13 := Bool.eq_false_iff.mpr c13
                      subst c13
                      have H1 : ((spec_appendUTF8.f k1 x3_1 t330).bind fun t346 => (spec_Unquote.l0 k1 t346 (a0.extract 1 ((wrap64 ((a0.size : Int) - 1)) : Int).toNat) (wrap64 (x5_1 + 6)))) = some r := by rw [if_neg (show ¬ (false = true) by decide)] at H; exact H
                      clear H
                      have H := H1
                      clear H1
                      replace H := Option.bind_eq_some_iff.mp H
                      obtain ⟨t346, A220, H⟩ := H
                      replace H : (spec_Unquote.l0 k1 t346 (a0.extract 1 ((wrap64 ((a0.size : Int) - 1)) : Int).toNat) (wrap64 (x5_1 + 6))) = some r := H
                      have A22 := Aside0.mk A220
                      clear A220
                      have H' := Aside0.mk H
                      clear H
                      have p6 : 0 ≤ (x5_1 : Int) := of_decide_eq_true (by first | (with_reducible assumption) | assumption)
                      have q6 : x5_1 < ((a0.extract 1 ((wrap64 ((a0.size : Int) - 1)) : Int).toNat).size : Int) := of_decide_eq_true (by first | (with_reducible assumption) | assumption)
                      have hx6 := bt_at (a0.extract 1 ((wrap64 ((a0.size : Int) - 1)) : Int).toNat) x5_1
                      replace p6 := eq_true p6
                      replace q6 := eq_true q6
                      go_wp2_with (first | ((with_reducible refine gate_callee (f := 20) rfl ?_); refine goesL_ (some 34) rfl rfl Tryd.func20 (by kernel_rfl) rfl #[.string (a0.extract 1 ((wrap64 ((a0.size : Int) - 1)) : Int).toNat), .int .i64 x5_1] rfl (by (try simp only [List.map_toArray, List.map_cons, List.map_nil]); first | done | rfl | (simp only [List.length_drop, List.length_take]; rfl)) ?_; (with_reducible refine (spec_unit.calls k1 (a0.extract 1 ((wrap64 ((a0.size : Int) - 1)) : Int).toNat) x5_1 t330 true _ A8.out).mono ?_); rintro e w' ⟨rfl, ⟨nd, rfl⟩⟩; refine ⟨_, rfl, ?_⟩) | ((with_reducible refine gate_callee (f := 20) rfl ?_); refine goesL_ (some 54) rfl rfl Tryd.func20 (by kernel_rfl) rfl #[.string (a0.extract 1 ((wrap64 ((a0.size : Int) - 1)) : Int).toNat), .int .i64 (wrap64 (x5_1 + 6))] rfl (by (try simp only [List.map_toArray, List.map_cons, List.map_nil]); first | done | rfl | (simp only [List.length_drop, List.length_take]; rfl)) ?_; (with_reducible refine (spec_unit.calls k1 (a0.extract 1 ((wrap64 ((a0.size : Int) - 1)) : Int).toNat) (wrap64 (x5_1 + 6)) t336 true _ A10.out).mono ?_); rintro e w' ⟨rfl, ⟨nd, rfl⟩⟩; refine ⟨_, rfl, ?_⟩) | (go_at_call 21; (with_reducible refine (spec_high.calls t330 false _ A12.out).mono ?_); rintro e w' ⟨rfl, ⟨nd, rfl⟩⟩; obtain ⟨Ao23, co23, eo23⟩ := Kd.R_slice HO_3.out; subst eo23) | ((with_reducible refine gate_callee (f := 65) rfl ?_); refine goesL_ (some 77) rfl rfl Tryd.func65 (by kernel_rfl) rfl #[.slice Ao23 x3_1.length co23, .int .i64 t330] rfl (by (try simp only [List.map_toArray, List.map_cons, List.map_nil]); first | done | rfl | (simp only [List.length_drop, List.length_take]; rfl)) ?_; (with_reducible refine (spec_appendUTF8.calls k1 (fun k_ => some k_ = (.slice Ao23 x3_1.length co23 : Value).ownBlock) (.slice Ao23 x3_1.length co23) x3_1 t330 t346 w _ ?side1 ?side2 A22.out).mono ?_); (case side1 => repeat (first | (with_reducible first | exact HB.out | apply below_alloc | apply pw_below_drewN | apply below_drew1) | exact HB.out)); (case side2 => exact Kd.R_tight rfl HO_3.out); rintro e w24 ⟨v347, rfl, ho0, hb, hkp⟩; refine ⟨_, rfl, ?_⟩; have n0_ := Aside0.mk (Kd.R_mono (ok' := fun k_ => True) ho0 (fun k_ hk_ => trivial)); have n1_ := Aside0.mk (hb); clear HB; clear HO_3; have HO348 := n0_; have HB := n1_; clear n0_ n1_; (try clear hb); (try clear hkp); (try clear ho0)))
                      go_roundg k1
                      case measure => have := HK1.out; omega
                      case rel => exact ⟨(t346), (wrap64 (x5_1 + 6)), (by first | rfl | (simp; done) | (simp [*]; done)), H', ⟨by have := HK1.out; omega⟩, ⟨by (with_reducible repeat (first | apply Kd.R_alloc | apply Kd.R_drewN | apply Kd.R_drew)); exact HO348.out⟩, ⟨by repeat (first | (with_reducible first | exact HB.out | apply below_alloc | apply pw_below_drewN | apply below_drew1) | exact HB.out)⟩⟩
                  · replace c11 := Bool.eq_false_iff.mpr c11
                    subst c11
                    have H1 : ((spec_appendUTF8.f k1 x3_1 t330).bind fun t349 => (spec_Unquote.l0 k1 t349 (a0.extract 1 ((wrap64 ((a0.size : Int) - 1)) : Int).toNat) (wrap64 (x5_1 + 6)))) = some r := by rw [if_neg (show ¬ (false = true) by decide)] at H; exact H
                    clear H
                    have H := H1
                    clear H1
                    replace H := Option.bind_eq_some_iff.mp H
                    obtain ⟨t349, A250, H⟩ := H
                    replace H : (spec_Unquote.l0 k1 t349 (a0.extract 1 ((wrap64 ((a0.size : Int) - 1)) : Int).toNat) (wrap64 (x5_1 + 6))) = some r := H
                    have A25 := Aside0.mk A250
                    clear A250
                    have H' := Aside0.mk H
                    clear H
                    have p6 : 0 ≤ (x5_1 : Int) := of_decide_eq_true (by first | (with_reducible assumption) | assumption)
                    have q6 : x5_1 < ((a0.extract 1 ((wrap64 ((a0.size : Int) - 1)) : Int).toNat).size : Int) := of_decide_eq_true (by first | (with_reducible assumption) | assumption)
                    have hx6 := bt_at (a0.extract 1 ((wrap64 ((a0.size : Int) - 1)) : Int).toNat) x5_1
                    replace p6 := eq_true p6
                    replace q6 := eq_true q6
                    go_wp2_with (first | ((with_reducible refine gate_callee (f := 20) rfl ?_); refine goesL_ (some 34) rfl rfl Tryd.func20 (by kernel_rfl) rfl #[.string (a0.extract 1 ((wrap64 ((a0.size : Int) - 1)) : Int).toNat), .int .i64 x5_1] rfl (by (try simp only [List.map_toArray, List.map_cons, List.map_nil]); first | done | rfl | (simp only [List.length_drop, List.length_take]; rfl)) ?_; (with_reducible refine (spec_unit.calls k1 (a0.extract 1 ((wrap64 ((a0.size : Int) - 1)) : Int).toNat) x5_1 t330 true _ A8.out).mono ?_); rintro e w' ⟨rfl, ⟨nd, rfl⟩⟩; refine ⟨_, rfl, ?_⟩) | ((with_reducible refine gate_callee (f := 20) rfl ?_); refine goesL_ (some 54) rfl rfl Tryd.func20 (by kernel_rfl) rfl #[.string (a0.extract 1 ((wrap64 ((a0.size : Int) - 1)) : Int).toNat), .int .i64 (wrap64 (x5_1 + 6))] rfl (by (try simp only [List.map_toArray, List.map_cons, List.map_nil]); first | done | rfl | (simp only [List.length_drop, List.length_take]; rfl)) ?_; (with_reducible refine (spec_unit.calls k1 (a0.extract 1 ((wrap64 ((a0.size : Int) - 1)) : Int).toNat) (wrap64 (x5_1 + 6)) t336 false _ A10.out).mono ?_); rintro e w' ⟨rfl, ⟨nd, rfl⟩⟩; refine ⟨_, rfl, ?_⟩; obtain ⟨Ao26, co26, eo26⟩ := Kd.R_slice HO_3.out; subst eo26) | ((with_reducible refine gate_callee (f := 65) rfl ?_); refine goesL_ (some 77) rfl rfl Tryd.func65 (by kernel_rfl) rfl #[.slice Ao26 x3_1.length co26, .int .i64 t330] rfl (by (try simp only [List.map_toArray, List.map_cons, List.map_nil]); first | done | rfl | (simp only [List.length_drop, List.length_take]; rfl)) ?_; (with_reducible refine (spec_appendUTF8.calls k1 (fun k_ => some k_ = (.slice Ao26 x3_1.length co26 : Value).ownBlock) (.slice Ao26 x3_1.length co26) x3_1 t330 t349 w _ ?side1 ?side2 A25.out).mono ?_); (case side1 => repeat (first | (with_reducible first | exact HB.out | apply below_alloc | apply pw_below_drewN | apply below_drew1) | exact HB.out)); (case side2 => exact Kd.R_tight rfl HO_3.out); rintro e w27 ⟨v350, rfl, ho0, hb, hkp⟩; refine ⟨_, rfl, ?_⟩; have n0_ := Aside0.mk (Kd.R_mono (ok' := fun k_ => True) ho0 (fun k_ hk_ => trivial)); have n1_ := Aside0.mk (hb); clear HB; clear HO_3; have HO351 := n0_; have HB := n1_; clear n0_ n1_; (try clear hb); (try clear hkp); (try clear ho0)))
                    go_roundg k1
                    case measure => have := HK1.out; omega
                    case rel => exact ⟨(t349), (wrap64 (x5_1 + 6)), (by first | rfl | (simp; done) | (simp [*]; done)), H', ⟨by have := HK1.out; omega⟩, ⟨by (with_reducible repeat (first | apply Kd.R_alloc | apply Kd.R_drewN | apply Kd.R_drew)); exact HO351.out⟩, ⟨by repeat (first | (with_reducible first | exact HB.out | apply below_alloc | apply pw_below_drewN | apply below_drew1) | exact HB.out)⟩⟩
                · replace c9 := Bool.eq_false_iff.mpr c9
                  subst c9
                  have H1 : (if 0 ≤ (wrap64 (x5_1 + 1)) then (if (wrap64 (x5_1 + 1)) < ((a0.extract 1 ((wrap64 ((a0.size : Int) - 1)) : Int).toNat).size : Int) then ((spec_short.f (bt (a0.extract 1 ((wrap64 ((a0.size : Int) - 1)) : Int).toNat) (wrap64 (x5_1 + 1)))).bind fun t332 => (if x3_1.length < 140737488355328 then (spec_Unquote.l0 k1 (x3_1 ++ [t332]) (a0.extract 1 ((wrap64 ((a0.size : Int) - 1)) : Int).toNat) (wrap64 (x5_1 + 2))) else (none))) else (none)) else (none)) = some r := by rw [if_neg (show ¬ (false = true) by decide)] at H; exact H
                  clear H
                  have H := H1
                  clear H1
                  obtain ⟨ji28, hji28⟩ : ∃ j_ : Int, (wrap64 (x5_1 + 1)) = j_ := ⟨_, rfl⟩
                  replace H : (if 0 ≤ (ji28) then (if (ji28) < ((a0.extract 1 ((wrap64 ((a0.size : Int) - 1)) : Int).toNat).size : Int) then ((spec_short.f (bt (a0.extract 1 ((wrap64 ((a0.size : Int) - 1)) : Int).toNat) (ji28))).bind fun t332 => (if x3_1.length < 140737488355328 then (spec_Unquote.l0 k1 (x3_1 ++ [t332]) (a0.extract 1 ((wrap64 ((a0.size : Int) - 1)) : Int).toNat) (wrap64 (x5_1 + 2))) else (none))) else (none)) else (none)) = some r := by first | (rw [hji28] at H; exact H) | (simp only [hji28] at H ⊢; exact H)
                  (try rw [hji28] at A8)
                  have hji28w : (IntKind.i64.wrap (x5_1 + 1)) = ji28 := (i64_w _).trans hji28
                  by_cases c29 : 0 ≤ (ji28)
                  · rw [if_pos c29] at H
                    have c29b0 : decide (0 ≤ (ji28)) = true := decide_eq_true c29
                    clear c29
                    by_cases c30 : (ji28) < ((a0.extract 1 ((wrap64 ((a0.size : Int) - 1)) : Int).toNat).size : Int)
                    · rw [if_pos c30] at H
                      have c30b0 : decide ((ji28) < ((a0.extract 1 ((wrap64 ((a0.size : Int) - 1)) : Int).toNat).size : Int)) = true := decide_eq_true c30
                      have c30e0 := c30b0
                      (try simp only [ByteArray.size_extract, Nat.min_self] at c30e0)
                      (first | have c30f0 := of_decide_eq_true c30e0 | have c30f0 := of_decide_eq_false c30e0 | skip)
                      clear c30
                      replace H := Option.bind_eq_some_iff.mp H
                      obtain ⟨t332, A320, H⟩ := H
                      replace H : (if x3_1.length < 140737488355328 then (spec_Unquote.l0 k1 (x3_1 ++ [t332]) (a0.extract 1 ((wrap64 ((a0.size : Int) - 1)) : Int).toNat) (wrap64 (x5_1 + 2))) else (none)) = some r := H
                      have A32 := Aside0.mk A320
                      clear A320
                      by_cases c33 : x3_1.length < 140737488355328
                      · rw [if_pos c33] at H
                        have LMc33 := Aside0.mk c33
                        clear c33
                        obtain ⟨y333, hy333⟩ : ∃ y_ : List Int, y_ = (x3_1 ++ [t332]) := ⟨_, rfl⟩
                        replace H : (spec_Unquote.l0 k1 y333 (a0.extract 1 ((wrap64 ((a0.size : Int) - 1)) : Int).toNat) (wrap64 (x5_1 + 2))) = some r := by first | (rw [hy333]; with_reducible exact H) | (have H2_ := (Option.bind_some _ _).symm.trans H; rw [hy333]; with_reducible exact H2_) | (have H2_ := (Option.bind_some _ _).symm.trans H; with_reducible exact H2_) | with_reducible exact H | (rw [hy333]; exact H) | exact H
                        have Ny333 := Aside0.mk hy333
                        clear hy333
                        have H' := Aside0.mk H
                        clear H
                        have p6 : 0 ≤ (x5_1 : Int) := of_decide_eq_true (by first | (with_reducible assumption) | assumption)
                        have q6 : x5_1 < ((a0.extract 1 ((wrap64 ((a0.size : Int) - 1)) : Int).toNat).size : Int) := of_decide_eq_true (by first | (with_reducible assumption) | assumption)
                        have hx6 := bt_at (a0.extract 1 ((wrap64 ((a0.size : Int) - 1)) : Int).toNat) x5_1
                        replace p6 := eq_true p6
                        replace q6 := eq_true q6
                        go_wp2_with (first | ((with_reducible refine gate_callee (f := 20) rfl ?_); refine goesL_ (some 34) rfl rfl Tryd.func20 (by kernel_rfl) rfl #[.string (a0.extract 1 ((wrap64 ((a0.size : Int) - 1)) : Int).toNat), .int .i64 x5_1] rfl (by (try simp only [List.map_toArray, List.map_cons, List.map_nil]); first | done | rfl | (simp only [List.length_drop, List.length_take]; rfl)) ?_; (with_reducible refine (spec_unit.calls k1 (a0.extract 1 ((wrap64 ((a0.size : Int) - 1)) : Int).toNat) x5_1 t330 false _ A8.out).mono ?_); rintro e w' ⟨rfl, ⟨nd, rfl⟩⟩; refine ⟨_, rfl, ?_⟩; have p31 : 0 ≤ ((ji28) : Int) := of_decide_eq_true (by first | (with_reducible assumption) | assumption); have q31 : (ji28) < ((a0.extract 1 ((wrap64 ((a0.size : Int) - 1)) : Int).toNat).size : Int) := of_decide_eq_true (by first | (with_reducible assumption) | assumption); have hx31 := bt_at (a0.extract 1 ((wrap64 ((a0.size : Int) - 1)) : Int).toNat) (ji28); replace p31 := eq_true p31; replace q31 := eq_true q31) | ((with_reducible refine gate_callee (f := 64) rfl ?_); refine goesL_ (some 44) rfl rfl Tryd.func64 (by kernel_rfl) rfl #[.int .u8 (bt (a0.extract 1 ((wrap64 ((a0.size : Int) - 1)) : Int).toNat) (ji28))] rfl (by (try simp only [List.map_toArray, List.map_cons, List.map_nil]); first | done | (simp only [hji28]; rfl) | rfl | (simp only [List.length_drop, List.length_take]; rfl)) ?_; (with_reducible refine (spec_short.calls (bt (a0.extract 1 ((wrap64 ((a0.size : Int) - 1)) : Int).toNat) (ji28)) t332 _ A32.out).mono ?_); rintro e w' ⟨rfl, ⟨nd, rfl⟩⟩; refine ⟨_, rfl, ?_⟩) | ((with_reducible refine gate_builtin (b := .append) (xs := #[.tmp 39, .tmp 45]) rfl ?_); at_builtin; refine Kd.R_append (Kd.int .u8) (w0 := w) w.heap.size rfl (.tmp 39) (.tmp 45) 34 5 (.int .u8 0) 1 rfl Tryd.underlying34 info5 rfl (by decide) (by omega) u3 x3_1 t332 [.int .u8 t332] (fun _ => True) (fun _ => False) rfl rfl ?aP (fun _ hk => hk.elim) ?aF ?aO ?aB ?aS ?aL ?_; (case aP => exact rfl); (case aB => exact (by repeat (first | (with_reducible first | exact HB.out | apply below_alloc | apply pw_below_drewN | apply below_drew1) | exact HB.out))); (case aF => exact (fun _ _ => trivial)); (case aO => exact (by (with_reducible repeat (first | apply Kd.R_alloc | apply Kd.R_drewN | apply Kd.R_drew)); exact HO_3.out)); (case aS => exact (below_size (by repeat (first | (with_reducible first | exact HB.out | apply below_alloc | apply pw_below_drewN | apply below_drew1) | exact HB.out)))); (case aL => have := LMc33.out; omega); intro v334 w34 ho hb hg hat; rw [← Ny333.out] at ho; have n0_ := Aside0.mk (hb); have n1_ := Aside0.mk (ho); clear HB; clear HO_3; have HB := n0_; have HO335 := n1_; clear n0_ n1_; clear ho hb hg hat))
                        go_roundg k1
                        case measure => have := HK1.out; omega
                        case rel => exact ⟨(y333), (wrap64 (x5_1 + 2)), (by first | rfl | (simp; done) | (simp [*]; done)), H', ⟨by have := HK1.out; omega⟩, ⟨by (with_reducible repeat (first | apply Kd.R_alloc | apply Kd.R_drewN | apply Kd.R_drew)); exact HO335.out⟩, ⟨by repeat (first | (with_reducible first | exact HB.out | apply below_alloc | apply pw_below_drewN | apply below_drew1) | exact HB.out)⟩⟩
                      · rw [if_neg c33] at H
                        exact absurd H (by simp)
                    · rw [if_neg c30] at H
                      exact absurd H (by simp)
                  · rw [if_neg c29] at H
                    exact absurd H (by simp)
              · rw [if_neg c7] at H
                have c7b0 : ((bt (a0.extract 1 ((wrap64 ((a0.size : Int) - 1)) : Int).toNat) x5_1) == 92) = false := beq_eq_false_iff_ne.mpr c7
                have c7b1 : ((bt (a0.extract 1 ((wrap64 ((a0.size : Int) - 1)) : Int).toNat) x5_1) != 92) = true := bne_iff_ne.mpr c7
                by_cases c36 : x3_1.length < 140737488355328
                · rw [if_pos c36] at H
                  have LMc36 := Aside0.mk c36
                  clear c36
                  obtain ⟨y327, hy327⟩ : ∃ y_ : List Int, y_ = (x3_1 ++ [bt (a0.extract 1 ((wrap64 ((a0.size : Int) - 1)) : Int).toNat) x5_1]) := ⟨_, rfl⟩
                  replace H : (spec_Unquote.l0 k1 y327 (a0.extract 1 ((wrap64 ((a0.size : Int) - 1)) : Int).toNat) (wrap64 (x5_1 + 1))) = some r := by first | (rw [hy327]; with_reducible exact H) | (have H2_ := (Option.bind_some _ _).symm.trans H; rw [hy327]; with_reducible exact H2_) | (have H2_ := (Option.bind_some _ _).symm.trans H; with_reducible exact H2_) | with_reducible exact H | (rw [hy327]; exact H) | exact H
                  have Ny327 := Aside0.mk hy327
                  clear hy327
                  have H' := Aside0.mk H
                  clear H
                  have p6 : 0 ≤ (x5_1 : Int) := of_decide_eq_true (by first | (with_reducible assumption) | assumption)
                  have q6 : x5_1 < ((a0.extract 1 ((wrap64 ((a0.size : Int) - 1)) : Int).toNat).size : Int) := of_decide_eq_true (by first | (with_reducible assumption) | assumption)
                  have hx6 := bt_at (a0.extract 1 ((wrap64 ((a0.size : Int) - 1)) : Int).toNat) x5_1
                  replace p6 := eq_true p6
                  replace q6 := eq_true q6
                  have p35 : 0 ≤ (x5_1 : Int) := of_decide_eq_true (by first | (with_reducible assumption) | assumption)
                  have q35 : x5_1 < ((a0.extract 1 ((wrap64 ((a0.size : Int) - 1)) : Int).toNat).size : Int) := of_decide_eq_true (by first | (with_reducible assumption) | assumption)
                  have hx35 := bt_at (a0.extract 1 ((wrap64 ((a0.size : Int) - 1)) : Int).toNat) x5_1
                  replace p35 := eq_true p35
                  replace q35 := eq_true q35
                  go_wp2_with (first | ((with_reducible refine gate_builtin (b := .append) (xs := #[.tmp 23, .tmp 27]) rfl ?_); at_builtin; refine Kd.R_append (Kd.int .u8) (w0 := w) w.heap.size rfl (.tmp 23) (.tmp 27) 34 5 (.int .u8 0) 1 rfl Tryd.underlying34 info5 rfl (by decide) (by omega) u3 x3_1 (bt (a0.extract 1 ((wrap64 ((a0.size : Int) - 1)) : Int).toNat) x5_1) [.int .u8 (bt (a0.extract 1 ((wrap64 ((a0.size : Int) - 1)) : Int).toNat) x5_1)] (fun _ => True) (fun _ => False) rfl rfl ?aP (fun _ hk => hk.elim) ?aF ?aO ?aB ?aS ?aL ?_; (case aP => exact rfl); (case aB => exact (by repeat (first | (with_reducible first | exact HB.out | apply below_alloc | apply pw_below_drewN | apply below_drew1) | exact HB.out))); (case aF => exact (fun _ _ => trivial)); (case aO => exact (by (with_reducible repeat (first | apply Kd.R_alloc | apply Kd.R_drewN | apply Kd.R_drew)); exact HO_3.out)); (case aS => exact (below_size (by repeat (first | (with_reducible first | exact HB.out | apply below_alloc | apply pw_below_drewN | apply below_drew1) | exact HB.out)))); (case aL => have := LMc36.out; omega); intro v328 w37 ho hb hg hat; rw [← Ny327.out] at ho; have n0_ := Aside0.mk (hb); have n1_ := Aside0.mk (ho); clear HB; clear HO_3; have HB := n0_; have HO329 := n1_; clear n0_ n1_; clear ho hb hg hat))
                  go_roundg k1
                  case measure => have := HK1.out; omega
                  case rel => exact ⟨(y327), (wrap64 (x5_1 + 1)), (by first | rfl | (simp; done) | (simp [*]; done)), H', ⟨by have := HK1.out; omega⟩, ⟨by (with_reducible repeat (first | apply Kd.R_alloc | apply Kd.R_drewN | apply Kd.R_drew)); exact HO329.out⟩, ⟨by repeat (first | (with_reducible first | exact HB.out | apply below_alloc | apply pw_below_drewN | apply below_drew1) | exact HB.out)⟩⟩
                · rw [if_neg c36] at H
                  exact absurd H (by simp)
            · rw [if_neg c5] at H
              exact absurd H (by simp)
          · rw [if_neg c4] at H
            have c4b0 : decide (x5_1 < ((a0.extract 1 ((wrap64 ((a0.size : Int) - 1)) : Int).toNat).size : Int)) = false := decide_eq_false c4
            have c4e0 := c4b0
            (try simp only [ByteArray.size_extract, Nat.min_self] at c4e0)
            (first | have c4f0 := of_decide_eq_true c4e0 | have c4f0 := of_decide_eq_false c4e0 | skip)
            clear c4
            obtain rfl := Option.some.inj H
            have hcv38 := own_string (P := Tryd.prog) Tryd.underlying34 Tryd.underlying5 Tryd.underlying9 (Kd.own_of_R HO_3.out)
            go_wp2
            go_ret
            exact ⟨by first | rfl | (simp [errX_none, errX_some] <;> rfl) | (simp [*, errX_none, errX_some] <;> rfl), by repeat (first | (with_reducible first | exact HB.out | apply below_alloc | apply pw_below_drewN | apply below_drew1) | exact HB.out)⟩
    · rw [if_neg c3] at H
      exact absurd H (by simp)
  · rw [if_neg c2] at H
    exact absurd H (by simp)


end Go.Proofs.YtfoloneeibgoiaaDoor.U8
