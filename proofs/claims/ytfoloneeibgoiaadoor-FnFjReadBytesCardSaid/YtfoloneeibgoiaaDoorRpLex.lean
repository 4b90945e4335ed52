-- Written for this claim by this session's own program (wip/xprint).
import Derived.Test.YtfoloneeibgoiaaDoorProg
import Derived.Below
import Derived.Deep.Draws
import Derived.Deep.AppendLies
import Derived.Maps.AppendAt
import Derived.OwnWalk
import Derived.Laws.BytesArg
import Derived.Laws.MakeOwn
import Derived.Laws.OwnMore
import Derived.Deep.OwnRows
import Derived.Tactics
import Derived.Lib.ConvBytes
import Derived.Laws.Slices
import Derived.WalkKit
import Derived.KernelRfl
import Derived.RowKit3
import Derived.Deep.LoopGhost
import Derived.Deep.QuietTactic
import Derived.BigQuiet
import Derived.WideLaws
import Derived.Deep.DeepCutAuto
import Derived.Deep.CutBlock
import Derived.Deep.RegionHeld3
import Derived.Laws.Rows
import Derived.Lib.AppendStr
import Derived.ArgAppend
import Derived.Laws.IdiomCopy
import Derived.OrdersHeld
import Derived.Laws.BitsLemmas
import Derived.RowKit
import Derived.Test.YtfoloneeibgoiaaDoorRpErr
import Derived.Test.YtfoloneeibgoiaaDoorRpIdx
import Derived.Test.YtfoloneeibgoiaaDoorWWords
import Derived.Test.YtfoloneeibgoiaaDoorWLast
import Derived.Test.YtfoloneeibgoiaaDoorWTab
import Derived.Test.YtfoloneeibgoiaaDoorWFour
import Derived.Test.YtfoloneeibgoiaaDoorWQPut
import Derived.Test.YtfoloneeibgoiaaDoorWApart
import Derived.Test.YtfoloneeibgoiaaDoorWArr
import Derived.Test.YtfoloneeibgoiaaDoorWZeros
import Derived.Test.YtfoloneeibgoiaaDoorWFoot
import Derived.Test.YtfoloneeibgoiaaDoorWKept
import Derived.Test.YtfoloneeibgoiaaDoorWShare
import Derived.Test.YtfoloneeibgoiaaDoorWN
import Derived.Test.YtfoloneeibgoiaaDoorWFootNe
import Derived.Test.YtfoloneeibgoiaaDoorWAt
import Derived.Test.YtfoloneeibgoiaaDoorWEqStruct
import Derived.Test.YtfoloneeibgoiaaDoorWRepsOne
import Derived.Test.YtfoloneeibgoiaaDoorWInv
import Derived.Test.YtfoloneeibgoiaaDoorWInvWords
import Derived.Test.YtfoloneeibgoiaaDoorWGuard
import Derived.Test.YtfoloneeibgoiaaDoorWNEv
import Derived.Test.YtfoloneeibgoiaaDoorWMore
namespace Go.Proofs.YtfoloneeibgoiaaDoor.Lex
open Go.RowKit Go.Proofs.YtfoloneeibgoiaaDoorW.PrintWords Go.Proofs.YtfoloneeibgoiaaDoorW.PrintLast Go.Proofs.YtfoloneeibgoiaaDoorW.PrintMore
attribute [local go_sem] max2_int min2_int max_two min_two max_three min_three max_four min_four   -- for this text's walks alone
set_option linter.unusedVariables false
set_option linter.unusedSimpArgs false
def errW : Option Int → Value
  | none => .nilIface
  | some c => .iface 0 (.int .i64 c)
theorem errW_none : errW none = .nilIface := rfl
theorem errW_some (c : Int) : errW (some c) = .iface 0 (.int .i64 c) := rfl

theorem info5 : (Tryd.prog.info? 5).map (fun i => (i.zero, i.size, i.bytes)) = some (some (.int .u8 0), 1, 1) := by kernel_rfl
theorem info9 : (Tryd.prog.info? 9).map (fun i => (i.zero, i.size, i.bytes)) = some (some (.string ⟨#[]⟩), 1, 16) := by kernel_rfl
theorem info25 : (Tryd.prog.info? 25).map (fun i => (i.zero, i.size, i.bytes)) = some (some (.agg #[(.int .i64 0), (.string ⟨#[]⟩), (.slice none 0 0), (.slice none 0 0)]), 4, 72) := by kernel_rfl
theorem info56 : (Tryd.prog.info? 56).map (fun i => (i.zero, i.size, i.bytes)) = some (some (.agg #[(.int .i64 0), (.int .i64 0), (.int .i64 0), (.slice none 0 0), (.slice none 0 0)]), 5, 72) := by kernel_rfl
theorem info86 : (Tryd.prog.info? 86).map (fun i => (i.zero, i.size, i.bytes)) = some (some (.agg #[(.int .i64 0), (.int .i64 0)]), 2, 16) := by kernel_rfl
/-! ### fastjson_skipWSSlow: function 42 -/
mutual
def fastjson_skipWSSlow.j0 : Nat → ByteArray → Bool → Option (ByteArray)
  | 0, _, _ => none
  | k + 1, x0, x26 => if x26 = true then (some x0) else (fastjson_skipWSSlow.l0 k x0 1)
def fastjson_skipWSSlow.l0 : Nat → ByteArray → Int → Option (ByteArray)
  | 0, _, _ => none
  | k + 1, x0, x3 => if x3 < (x0.size : Int) then (if 0 ≤ x3 then (if (bt x0 x3) = 32 then (fastjson_skipWSSlow.l0 k x0 (wrap64 (x3 + 1))) else (if (bt x0 x3) = 10 then (fastjson_skipWSSlow.l0 k x0 (wrap64 (x3 + 1))) else (if (bt x0 x3) = 9 then (fastjson_skipWSSlow.l0 k x0 (wrap64 (x3 + 1))) else (if (bt x0 x3) = 13 then (fastjson_skipWSSlow.l0 k x0 (wrap64 (x3 + 1))) else (if x3 ≤ (x0.size : Int) then (some (x0.extract (x3 : Int).toNat x0.size)) else (none)))))) else (none)) else (some (⟨#[]⟩ : ByteArray))
end
def fastjson_skipWSSlow.f (k : Nat) (a0 : ByteArray) : Option (ByteArray) := if (a0.size : Int) = 0 then (fastjson_skipWSSlow.j0 k a0 true) else (if 0 < (a0.size : Int) then (if (bt a0 0) = 32 then (fastjson_skipWSSlow.j0 k a0 false) else (if (bt a0 0) = 10 then (fastjson_skipWSSlow.j0 k a0 false) else (if (bt a0 0) = 9 then (fastjson_skipWSSlow.j0 k a0 false) else (fastjson_skipWSSlow.j0 k a0 ((bt a0 0) != 13))))) else (none))
theorem fastjson_skipWSSlow.mono_l : ∀ k, (∀ y0 y1, LeO (fastjson_skipWSSlow.j0 k y0 y1) (fastjson_skipWSSlow.j0 (k + 1) y0 y1)) ∧ (∀ y0 y1, LeO (fastjson_skipWSSlow.l0 k y0 y1) (fastjson_skipWSSlow.l0 (k + 1) y0 y1))
  | 0 => ⟨fun _ _ r h => by simp [fastjson_skipWSSlow.j0] at h, fun _ _ r h => by simp [fastjson_skipWSSlow.l0] at h⟩
  | k + 1 => by
    obtain ⟨ih0, ih1⟩ := fastjson_skipWSSlow.mono_l k
    refine ⟨?_, ?_⟩
    · intro y0 y1
      unfold fastjson_skipWSSlow.j0
      repeat' first
      | (with_reducible exact ih0 _ _)
      | (with_reducible exact ih1 _ _)
      | (with_reducible exact LeO.refl _)
      | (with_reducible exact LeO.none _)
      | (with_reducible refine LeO.ite ?_ ?_)
      | (with_reducible refine LeO.bind ?_ (fun _ => ?_))
      | exact ih0 _ _
      | exact ih1 _ _
      | exact LeO.none _
      | refine LeO.ite ?_ ?_
      | refine LeO.bind ?_ (fun _ => ?_)
    · intro y0 y1
      unfold fastjson_skipWSSlow.l0
      repeat' first
      | (with_reducible exact ih0 _ _)
      | (with_reducible exact ih1 _ _)
      | (with_reducible exact LeO.refl _)
      | (with_reducible exact LeO.none _)
      | (with_reducible refine LeO.ite ?_ ?_)
      | (with_reducible refine LeO.bind ?_ (fun _ => ?_))
      | exact ih0 _ _
      | exact ih1 _ _
      | exact LeO.none _
      | refine LeO.ite ?_ ?_
      | refine LeO.bind ?_ (fun _ => ?_)
theorem fastjson_skipWSSlow.mono : ∀ a0 k, LeO (fastjson_skipWSSlow.f k a0) (fastjson_skipWSSlow.f (k + 1) a0) := by
  intro a0 k
  obtain ⟨ih0, ih1⟩ := fastjson_skipWSSlow.mono_l k
  unfold fastjson_skipWSSlow.f
  repeat' first
      | (with_reducible exact ih0 _ _)
      | (with_reducible exact ih1 _ _)
      | (with_reducible exact LeO.refl _)
      | (with_reducible exact LeO.none _)
      | (with_reducible refine LeO.ite ?_ ?_)
      | (with_reducible refine LeO.bind ?_ (fun _ => ?_))
      | exact ih0 _ _
      | exact ih1 _ _
      | exact LeO.none _
      | refine LeO.ite ?_ ?_
      | refine LeO.bind ?_ (fun _ => ?_)
set_option maxHeartbeats 8000000 in
set_option maxRecDepth 100000 in
theorem fastjson_skipWSSlow.calls (k : Nat) (a0 : ByteArray) (r : ByteArray) (w : World) (h : fastjson_skipWSSlow.f k a0 = some r) :
    Calls Tryd.prog 42 #[.string a0] w fun e w' => e = .returned (.string r) ∧ Drawn0 w w' := by
  have H : (if (a0.size : Int) = 0 then (fastjson_skipWSSlow.j0 k a0 true) else (if 0 < (a0.size : Int) then (if (bt a0 0) = 32 then (fastjson_skipWSSlow.j0 k a0 false) else (if (bt a0 0) = 10 then (fastjson_skipWSSlow.j0 k a0 false) else (if (bt a0 0) = 9 then (fastjson_skipWSSlow.j0 k a0 false) else (fastjson_skipWSSlow.j0 k a0 ((bt a0 0) != 13))))) else (none))) = some r := h
  clear h
  have HC2 := Aside0.mk H
  clear H
  go_enter Tryd.func42, Tryd.ntmps42
  go_upto_region 1 with (fail)
  go_cut [26] (fun v26 wc => ∃ (kq : Nat) (x26_1 : Bool), v26 = .bool x26_1 ∧ Aside0 (fastjson_skipWSSlow.j0 kq a0 x26_1 = some r) ∧ Aside0 (kq ≤ k) ∧ Drawn0 w wc)
  case first =>
    have H := HC2.out
    clear HC2
    by_cases c3 : (a0.size : Int) = 0
    · rw [if_pos c3] at H
      have c3b0 : ((a0.size : Int) == 0) = true := beq_iff_eq.mpr c3
      have c3b1 : ((a0.size : Int) != 0) = false := bne_eq_false_iff_eq.mpr c3
      clear c3
      (first | rw [c3b0] | (simp only [i64_w, i32_w]; rw [c3b0]) | skip)
      have H' := Aside0.mk H
      clear H
      go_wp2
      (first | go_meet | (rw [← c3b0]; go_meet))
      case rel => exact ⟨_, (true), (by first | rfl | (simp; done) | (simp [*]; done)), H', ⟨by first | omega | exact Nat.le_refl _⟩, by repeat (first | exact Drawn0.refl _ | apply Drawn0.step)⟩
    · rw [if_neg c3] at H
      have c3b0 : ((a0.size : Int) == 0) = false := beq_eq_false_iff_ne.mpr c3
      have c3b1 : ((a0.size : Int) != 0) = true := bne_iff_ne.mpr c3
      (first | rw [c3b0] | (simp only [i64_w, i32_w]; rw [c3b0]) | skip)
      by_cases c4 : 0 < (a0.size : Int)
      · rw [if_pos c4] at H
        have c4b0 : decide (0 < (a0.size : Int)) = true := decide_eq_true c4
        have c4b1 : decide (0 < a0.size) = true := decide_eq_true (by omega)
        clear c4
        by_cases c6 : (bt a0 0) = 32
        · rw [if_pos c6] at H
          have c6b0 : ((bt a0 0) == 32) = true := beq_iff_eq.mpr c6
          have c6b1 : ((bt a0 0) != 32) = false := bne_eq_false_iff_eq.mpr c6
          clear c6
          have H' := Aside0.mk H
          clear H
          have p5 : 0 ≤ (0 : Int) := (by omega)
          have q5 : 0 < a0.size := (by have : (0 : Int) < (a0.size : Int) := of_decide_eq_true (by first | (with_reducible assumption) | assumption); omega)
          have hx5 : ∀ h : 0 < a0.size, ((a0[0]'h).toNat : Int) = bt a0 0 := bt_at a0 0
          clear p5
          have qi5 : (0 < (a0.size : Int)) = True := eq_true (of_decide_eq_true (by first | (with_reducible assumption) | assumption))
          replace q5 := eq_true q5
          go_wp2
          (first | go_meet | (rw [← c3b0]; go_meet) | (rw [← c6b0]; go_meet))
          case rel => exact ⟨_, (false), (by first | rfl | (simp; done) | (simp [*]; done)), H', ⟨by first | omega | exact Nat.le_refl _⟩, by repeat (first | exact Drawn0.refl _ | apply Drawn0.step)⟩
        · rw [if_neg c6] at H
          have c6b0 : ((bt a0 0) == 32) = false := beq_eq_false_iff_ne.mpr c6
          have c6b1 : ((bt a0 0) != 32) = true := bne_iff_ne.mpr c6
          by_cases c8 : (bt a0 0) = 10
          · rw [if_pos c8] at H
            have c8b0 : ((bt a0 0) == 10) = true := beq_iff_eq.mpr c8
            have c8b1 : ((bt a0 0) != 10) = false := bne_eq_false_iff_eq.mpr c8
            clear c8
            have H' := Aside0.mk H
            clear H
            have p5 : 0 ≤ (0 : Int) := (by omega)
            have q5 : 0 < a0.size := (by have : (0 : Int) < (a0.size : Int) := of_decide_eq_true (by first | (with_reducible assumption) | assumption); omega)
            have hx5 : ∀ h : 0 < a0.size, ((a0[0]'h).toNat : Int) = bt a0 0 := bt_at a0 0
            clear p5
            have qi5 : (0 < (a0.size : Int)) = True := eq_true (of_decide_eq_true (by first | (with_reducible assumption) | assumption))
            replace q5 := eq_true q5
            have p7 : 0 ≤ (0 : Int) := (by omega)
            have q7 : 0 < a0.size := (by have : (0 : Int) < (a0.size : Int) := of_decide_eq_true (by first | (with_reducible assumption) | assumption); omega)
            have hx7 : ∀ h : 0 < a0.size, ((a0[0]'h).toNat : Int) = bt a0 0 := bt_at a0 0
            clear p7
            have qi7 : (0 < (a0.size : Int)) = True := eq_true (of_decide_eq_true (by first | (with_reducible assumption) | assumption))
            replace q7 := eq_true q7
            go_wp2
            (first | go_meet | (rw [← c3b0]; go_meet) | (rw [← c6b0]; go_meet) | (rw [← c8b0]; go_meet))
            case rel => exact ⟨_, (false), (by first | rfl | (simp; done) | (simp [*]; done)), H', ⟨by first | omega | exact Nat.le_refl _⟩, by repeat (first | exact Drawn0.refl _ | apply Drawn0.step)⟩
          · rw [if_neg c8] at H
            have c8b0 : ((bt a0 0) == 10) = false := beq_eq_false_iff_ne.mpr c8
            have c8b1 : ((bt a0 0) != 10) = true := bne_iff_ne.mpr c8
            by_cases c10 : (bt a0 0) = 9
            · rw [if_pos c10] at H
              have c10b0 : ((bt a0 0) == 9) = true := beq_iff_eq.mpr c10
              have c10b1 : ((bt a0 0) != 9) = false := bne_eq_false_iff_eq.mpr c10
              clear c10
              have H' := Aside0.mk H
              clear H
              have p5 : 0 ≤ (0 : Int) := (by omega)
              have q5 : 0 < a0.size := (by have : (0 : Int) < (a0.size : Int) := of_decide_eq_true (by first | (with_reducible assumption) | assumption); omega)
              have hx5 : ∀ h : 0 < a0.size, ((a0[0]'h).toNat : Int) = bt a0 0 := bt_at a0 0
              clear p5
              have qi5 : (0 < (a0.size : Int)) = True := eq_true (of_decide_eq_true (by first | (with_reducible assumption) | assumption))
              replace q5 := eq_true q5
              have p7 : 0 ≤ (0 : Int) := (by omega)
              have q7 : 0 < a0.size := (by have : (0 : Int) < (a0.size : Int) := of_decide_eq_true (by first | (with_reducible assumption) | assumption); omega)
              have hx7 : ∀ h : 0 < a0.size, ((a0[0]'h).toNat : Int) = bt a0 0 := bt_at a0 0
              clear p7
              have qi7 : (0 < (a0.size : Int)) = True := eq_true (of_decide_eq_true (by first | (with_reducible assumption) | assumption))
              replace q7 := eq_true q7
              have p9 : 0 ≤ (0 : Int) := (by omega)
              have q9 : 0 < a0.size := (by have : (0 : Int) < (a0.size : Int) := of_decide_eq_true (by first | (with_reducible assumption) | assumption); omega)
              have hx9 : ∀ h : 0 < a0.size, ((a0[0]'h).toNat : Int) = bt a0 0 := bt_at a0 0
              clear p9
              have qi9 : (0 < (a0.size : Int)) = True := eq_true (of_decide_eq_true (by first | (with_reducible assumption) | assumption))
              replace q9 := eq_true q9
              go_wp2
              (first | go_meet | (rw [← c3b0]; go_meet) | (rw [← c6b0]; go_meet) | (rw [← c8b0]; go_meet) | (rw [← c10b0]; go_meet))
              case rel => exact ⟨_, (false), (by first | rfl | (simp; done) | (simp [*]; done)), H', ⟨by first | omega | exact Nat.le_refl _⟩, by repeat (first | exact Drawn0.refl _ | apply Drawn0.step)⟩
            · rw [if_neg c10] at H
              have c10b0 : ((bt a0 0) == 9) = false := beq_eq_false_iff_ne.mpr c10
              have c10b1 : ((bt a0 0) != 9) = true := bne_iff_ne.mpr c10
              have H' := Aside0.mk H
              clear H
              have p5 : 0 ≤ (0 : Int) := (by omega)
              have q5 : 0 < a0.size := (by have : (0 : Int) < (a0.size : Int) := of_decide_eq_true (by first | (with_reducible assumption) | assumption); omega)
              have hx5 : ∀ h : 0 < a0.size, ((a0[0]'h).toNat : Int) = bt a0 0 := bt_at a0 0
              clear p5
              have qi5 : (0 < (a0.size : Int)) = True := eq_true (of_decide_eq_true (by first | (with_reducible assumption) | assumption))
              replace q5 := eq_true q5
              have p7 : 0 ≤ (0 : Int) := (by omega)
              have q7 : 0 < a0.size := (by have : (0 : Int) < (a0.size : Int) := of_decide_eq_true (by first | (with_reducible assumption) | assumption); omega)
              have hx7 : ∀ h : 0 < a0.size, ((a0[0]'h).toNat : Int) = bt a0 0 := bt_at a0 0
              clear p7
              have qi7 : (0 < (a0.size : Int)) = True := eq_true (of_decide_eq_true (by first | (with_reducible assumption) | assumption))
              replace q7 := eq_true q7
              have p9 : 0 ≤ (0 : Int) := (by omega)
              have q9 : 0 < a0.size := (by have : (0 : Int) < (a0.size : Int) := of_decide_eq_true (by first | (with_reducible assumption) | assumption); omega)
              have hx9 : ∀ h : 0 < a0.size, ((a0[0]'h).toNat : Int) = bt a0 0 := bt_at a0 0
              clear p9
              have qi9 : (0 < (a0.size : Int)) = True := eq_true (of_decide_eq_true (by first | (with_reducible assumption) | assumption))
              replace q9 := eq_true q9
              have p11 : 0 ≤ (0 : Int) := (by omega)
              have q11 : 0 < a0.size := (by have : (0 : Int) < (a0.size : Int) := of_decide_eq_true (by first | (with_reducible assumption) | assumption); omega)
              have hx11 : ∀ h : 0 < a0.size, ((a0[0]'h).toNat : Int) = bt a0 0 := bt_at a0 0
              clear p11
              have qi11 : (0 < (a0.size : Int)) = True := eq_true (of_decide_eq_true (by first | (with_reducible assumption) | assumption))
              replace q11 := eq_true q11
              go_wp2
              (first | go_meet | (rw [← c3b0]; go_meet) | (rw [← c6b0]; go_meet) | (rw [← c8b0]; go_meet) | (rw [← c10b0]; go_meet))
              case rel => exact ⟨_, (((bt a0 0) != 13)), (by first | rfl | (simp; done) | (simp [*]; done)), H', ⟨by first | omega | exact Nat.le_refl _⟩, by repeat (first | exact Drawn0.refl _ | apply Drawn0.step)⟩
      · rw [if_neg c4] at H
        exact absurd H (by simp)
  case rest =>
    clear HC2
    try clear c1
    try clear p1
    try clear q1
    try clear hx1
    try clear qi1
    try clear p2
    try clear c3
    try clear c3b0
    try clear c3b1
    try clear c4
    try clear c4b0
    try clear c4b1
    try clear p5
    try clear q5
    try clear hx5
    try clear qi5
    try clear c6
    try clear c6b0
    try clear c6b1
    try clear p7
    try clear q7
    try clear hx7
    try clear qi7
    try clear c8
    try clear c8b0
    try clear c8b1
    try clear p9
    try clear q9
    try clear hx9
    try clear qi9
    try clear c10
    try clear c10b0
    try clear c10b1
    try clear p11
    try clear q11
    try clear hx11
    try clear qi11
    try clear p11
    try clear p5
    try clear p7
    try clear p9
    try clear q11
    try clear q5
    try clear q7
    try clear q9
    obtain ⟨kq, x26_1, rfl, HA, HJ1, ⟨mc1, rfl⟩⟩ := hcut
    cases kq with
    | zero => exact absurd HA.out (by simp [fastjson_skipWSSlow.j0])
    | succ kj1 =>
      have H := HA.out
      clear HA
      simp only [fastjson_skipWSSlow.j0] at H
      by_cases c12 : x26_1 = true
      · subst c12
        have H1 : (some a0) = some r := by rw [if_pos rfl] at H; exact H
        clear H
        have H := H1
        clear H1
        obtain rfl := Option.some.inj H
        go_wp2
        go_ret
        exact ⟨by first | rfl | (simp; done) | (simp [*]; done), by repeat (first | exact Drawn0.refl _ | apply Drawn0.step)⟩
      · replace c12 := Bool.eq_false_iff.mpr c12
        subst c12
        have H1 : (fastjson_skipWSSlow.l0 kj1 a0 1) = some r := by rw [if_neg (show ¬ (false = true) by decide)] at H; exact H
        clear H
        have H := H1
        clear H1
        have H' := Aside0.mk H
        clear H
        go_wp2
        (try simp only [Act.put, List.setIfInBounds_toArray, List.set_cons_zero, List.set_cons_succ])
        go_loopg [3] kj1 (fun kq v3 w' => ∃ (x3_2 : Int), v3 = .int .i64 x3_2 ∧ Aside0 (fastjson_skipWSSlow.l0 kq a0 x3_2 = some r) ∧ Aside0 (kq ≤ kj1) ∧ Drawn0 w w')
        case atStart => exact ⟨(1), (by first | rfl | (simp; done) | (simp [*]; done)), H', ⟨Nat.le_refl _⟩, by repeat (first | exact Drawn0.refl _ | apply Drawn0.step)⟩
        case round =>
          clear H'
          try clear c1
          try clear p1
          try clear q1
          try clear hx1
          try clear qi1
          try clear p2
          try clear c3
          try clear c3b0
          try clear c3b1
          try clear c4
          try clear c4b0
          try clear c4b1
          try clear p5
          try clear q5
          try clear hx5
          try clear qi5
          try clear c6
          try clear c6b0
          try clear c6b1
          try clear p7
          try clear q7
          try clear hx7
          try clear qi7
          try clear c8
          try clear c8b0
          try clear c8b1
          try clear p9
          try clear q9
          try clear hx9
          try clear qi9
          try clear c10
          try clear c10b0
          try clear c10b1
          try clear p11
          try clear q11
          try clear hx11
          try clear qi11
          try clear c12
          try clear p1
          try clear p11
          try clear p2
          try clear p5
          try clear p7
          try clear p9
          try clear q1
          try clear q11
          try clear q5
          try clear q7
          try clear q9
          obtain ⟨x3_2, rfl, HA, HK2, ⟨m2, rfl⟩⟩ := hrel
          cases gk with
          | zero => exact absurd HA.out (by simp [fastjson_skipWSSlow.l0])
          | succ k2 =>
            have H := HA.out
            clear HA
            simp only [fastjson_skipWSSlow.l0] at H
            by_cases c13 : x3_2 < (a0.size : Int)
            · rw [if_pos c13] at H
              have c13b0 : decide (x3_2 < (a0.size : Int)) = true := decide_eq_true c13
              clear c13
              by_cases c14 : 0 ≤ x3_2
              · rw [if_pos c14] at H
                have c14b0 : decide (0 ≤ x3_2) = true := decide_eq_true c14
                clear c14
                by_cases c16 : (bt a0 x3_2) = 32
                · rw [if_pos c16] at H
                  have c16b0 : ((bt a0 x3_2) == 32) = true := beq_iff_eq.mpr c16
                  have c16b1 : ((bt a0 x3_2) != 32) = false := bne_eq_false_iff_eq.mpr c16
                  clear c16
                  have H' := Aside0.mk H
                  clear H
                  have p15 : 0 ≤ (x3_2 : Int) := of_decide_eq_true (by first | (with_reducible assumption) | assumption)
                  have q15 : x3_2 < (a0.size : Int) := of_decide_eq_true (by first | (with_reducible assumption) | assumption)
                  have hx15 := bt_at a0 x3_2
                  replace p15 := eq_true p15
                  replace q15 := eq_true q15
                  go_wp2
                  go_roundg k2
                  case measure => have := HJ1.out; have := HK2.out; omega
                  case rel => exact ⟨(wrap64 (x3_2 + 1)), (by first | rfl | (simp; done) | (simp [*]; done)), H', ⟨by have := HJ1.out; have := HK2.out; omega⟩, by repeat (first | exact Drawn0.refl _ | apply Drawn0.step)⟩
                · rw [if_neg c16] at H
                  have c16b0 : ((bt a0 x3_2) == 32) = false := beq_eq_false_iff_ne.mpr c16
                  have c16b1 : ((bt a0 x3_2) != 32) = true := bne_iff_ne.mpr c16
                  by_cases c18 : (bt a0 x3_2) = 10
                  · rw [if_pos c18] at H
                    have c18b0 : ((bt a0 x3_2) == 10) = true := beq_iff_eq.mpr c18
                    have c18b1 : ((bt a0 x3_2) != 10) = false := bne_eq_false_iff_eq.mpr c18
                    clear c18
                    have H' := Aside0.mk H
                    clear H
                    have p15 : 0 ≤ (x3_2 : Int) := of_decide_eq_true (by first | (with_reducible assumption) | assumption)
                    have q15 : x3_2 < (a0.size : Int) := of_decide_eq_true (by first | (with_reducible assumption) | assumption)
                    have hx15 := bt_at a0 x3_2
                    replace p15 := eq_true p15
                    replace q15 := eq_true q15
                    have p17 : 0 ≤ (x3_2 : Int) := of_decide_eq_true (by first | (with_reducible assumption) | assumption)
                    have q17 : x3_2 < (a0.size : Int) := of_decide_eq_true (by first | (with_reducible assumption) | assumption)
                    have hx17 := bt_at a0 x3_2
                    replace p17 := eq_true p17
                    replace q17 := eq_true q17
                    go_wp2
                    go_roundg k2
                    case measure => have := HJ1.out; have := HK2.out; omega
                    case rel => exact ⟨(wrap64 (x3_2 + 1)), (by first | rfl | (simp; done) | (simp [*]; done)), H', ⟨by have := HJ1.out; have := HK2.out; omega⟩, by repeat (first | exact Drawn0.refl _ | apply Drawn0.step)⟩
                  · rw [if_neg c18] at H
                    have c18b0 : ((bt a0 x3_2) == 10) = false := beq_eq_false_iff_ne.mpr c18
                    have c18b1 : ((bt a0 x3_2) != 10) = true := bne_iff_ne.mpr c18
                    by_cases c20 : (bt a0 x3_2) = 9
                    · rw [if_pos c20] at H
                      have c20b0 : ((bt a0 x3_2) == 9) = true := beq_iff_eq.mpr c20
                      have c20b1 : ((bt a0 x3_2) != 9) = false := bne_eq_false_iff_eq.mpr c20
                      clear c20
                      have H' := Aside0.mk H
                      clear H
                      have p15 : 0 ≤ (x3_2 : Int) := of_decide_eq_true (by first | (with_reducible assumption) | assumption)
                      have q15 : x3_2 < (a0.size : Int) := of_decide_eq_true (by first | (with_reducible assumption) | assumption)
                      have hx15 := bt_at a0 x3_2
                      replace p15 := eq_true p15
                      replace q15 := eq_true q15
                      have p17 : 0 ≤ (x3_2 : Int) := of_decide_eq_true (by first | (with_reducible assumption) | assumption)
                      have q17 : x3_2 < (a0.size : Int) := of_decide_eq_true (by first | (with_reducible assumption) | assumption)
                      have hx17 := bt_at a0 x3_2
                      replace p17 := eq_true p17
                      replace q17 := eq_true q17
                      have p19 : 0 ≤ (x3_2 : Int) := of_decide_eq_true (by first | (with_reducible assumption) | assumption)
                      have q19 : x3_2 < (a0.size : Int) := of_decide_eq_true (by first | (with_reducible assumption) | assumption)
                      have hx19 := bt_at a0 x3_2
                      replace p19 := eq_true p19
                      replace q19 := eq_true q19
                      go_wp2
                      go_roundg k2
                      case measure => have := HJ1.out; have := HK2.out; omega
                      case rel => exact ⟨(wrap64 (x3_2 + 1)), (by first | rfl | (simp; done) | (simp [*]; done)), H', ⟨by have := HJ1.out; have := HK2.out; omega⟩, by repeat (first | exact Drawn0.refl _ | apply Drawn0.step)⟩
                    · rw [if_neg c20] at H
                      have c20b0 : ((bt a0 x3_2) == 9) = false := beq_eq_false_iff_ne.mpr c20
                      have c20b1 : ((bt a0 x3_2) != 9) = true := bne_iff_ne.mpr c20
                      by_cases c22 : (bt a0 x3_2) = 13
                      · rw [if_pos c22] at H
                        have c22b0 : ((bt a0 x3_2) == 13) = true := beq_iff_eq.mpr c22
                        have c22b1 : ((bt a0 x3_2) != 13) = false := bne_eq_false_iff_eq.mpr c22
                        clear c22
                        have H' := Aside0.mk H
                        clear H
                        have p15 : 0 ≤ (x3_2 : Int) := of_decide_eq_true (by first | (with_reducible assumption) | assumption)
                        have q15 : x3_2 < (a0.size : Int) := of_decide_eq_true (by first | (with_reducible assumption) | assumption)
                        have hx15 := bt_at a0 x3_2
                        replace p15 := eq_true p15
                        replace q15 := eq_true q15
                        have p17 : 0 ≤ (x3_2 : Int) := of_decide_eq_true (by first | (with_reducible assumption) | assumption)
                        have q17 : x3_2 < (a0.size : Int) := of_decide_eq_true (by first | (with_reducible assumption) | assumption)
                        have hx17 := bt_at a0 x3_2
                        replace p17 := eq_true p17
                        replace q17 := eq_true q17
                        have p19 : 0 ≤ (x3_2 : Int) := of_decide_eq_true (by first | (with_reducible assumption) | assumption)
                        have q19 : x3_2 < (a0.size : Int) := of_decide_eq_true (by first | (with_reducible assumption) | assumption)
                        have hx19 := bt_at a0 x3_2
                        replace p19 := eq_true p19
                        replace q19 := eq_true q19
                        have p21 : 0 ≤ (x3_2 : Int) := of_decide_eq_true (by first | (with_reducible assumption) | assumption)
                        have q21 : x3_2 < (a0.size : Int) := of_decide_eq_true (by first | (with_reducible assumption) | assumption)
                        have hx21 := bt_at a0 x3_2
                        replace p21 := eq_true p21
                        replace q21 := eq_true q21
                        go_wp2
                        go_roundg k2
                        case measure => have := HJ1.out; have := HK2.out; omega
                        case rel => exact ⟨(wrap64 (x3_2 + 1)), (by first | rfl | (simp; done) | (simp [*]; done)), H', ⟨by have := HJ1.out; have := HK2.out; omega⟩, by repeat (first | exact Drawn0.refl _ | apply Drawn0.step)⟩
                      · rw [if_neg c22] at H
                        have c22b0 : ((bt a0 x3_2) == 13) = false := beq_eq_false_iff_ne.mpr c22
                        have c22b1 : ((bt a0 x3_2) != 13) = true := bne_iff_ne.mpr c22
                        have c23b0 := eq_true (of_decide_eq_true (by first | (with_reducible assumption) | assumption) : 0 ≤ x3_2)
                        by_cases c24 : x3_2 ≤ (a0.size : Int)
                        · rw [if_pos c24] at H
                          have c24b0 := eq_true c24
                          have c24b1 : decide (x3_2 ≤ (a0.size : Int)) = true := decide_eq_true c24
                          clear c24
                          obtain rfl := Option.some.inj H
                          have p15 : 0 ≤ (x3_2 : Int) := of_decide_eq_true (by first | (with_reducible assumption) | assumption)
                          have q15 : x3_2 < (a0.size : Int) := of_decide_eq_true (by first | (with_reducible assumption) | assumption)
                          have hx15 := bt_at a0 x3_2
                          replace p15 := eq_true p15
                          replace q15 := eq_true q15
                          have p17 : 0 ≤ (x3_2 : Int) := of_decide_eq_true (by first | (with_reducible assumption) | assumption)
                          have q17 : x3_2 < (a0.size : Int) := of_decide_eq_true (by first | (with_reducible assumption) | assumption)
                          have hx17 := bt_at a0 x3_2
                          replace p17 := eq_true p17
                          replace q17 := eq_true q17
                          have p19 : 0 ≤ (x3_2 : Int) := of_decide_eq_true (by first | (with_reducible assumption) | assumption)
                          have q19 : x3_2 < (a0.size : Int) := of_decide_eq_true (by first | (with_reducible assumption) | assumption)
                          have hx19 := bt_at a0 x3_2
                          replace p19 := eq_true p19
                          replace q19 := eq_true q19
                          have p21 : 0 ≤ (x3_2 : Int) := of_decide_eq_true (by first | (with_reducible assumption) | assumption)
                          have q21 : x3_2 < (a0.size : Int) := of_decide_eq_true (by first | (with_reducible assumption) | assumption)
                          have hx21 := bt_at a0 x3_2
                          replace p21 := eq_true p21
                          replace q21 := eq_true q21
                          go_wp2
                          go_ret
                          exact ⟨by first | rfl | (simp; done) | (simp [*]; done), by repeat (first | exact Drawn0.refl _ | apply Drawn0.step)⟩
                        · rw [if_neg c24] at H
                          exact absurd H (by simp)
              · rw [if_neg c14] at H
                exact absurd H (by simp)
            · rw [if_neg c13] at H
              have c13b0 : decide (x3_2 < (a0.size : Int)) = false := decide_eq_false c13
              clear c13
              obtain rfl := Option.some.inj H
              go_wp2
              go_ret
              exact ⟨by first | rfl | (simp; done) | (simp [*]; done), by repeat (first | exact Drawn0.refl _ | apply Drawn0.step)⟩


/-! ### fastjson_skipWS: function 25 -/
def fastjson_skipWS.f (k : Nat) (a0 : ByteArray) : Option (ByteArray) := if (a0.size : Int) = 0 then (some a0) else (if 0 < (a0.size : Int) then (if (bt a0 0) > 32 then (some a0) else ((fastjson_skipWSSlow.f k a0).bind fun t411 => (some t411))) else (none))
theorem fastjson_skipWS.mono : ∀ a0 k, LeO (fastjson_skipWS.f k a0) (fastjson_skipWS.f (k + 1) a0) := by
  intro a0 k
  unfold fastjson_skipWS.f
  repeat' first
      | (with_reducible exact fastjson_skipWSSlow.mono _ _)
      | (with_reducible exact LeO.refl _)
      | (with_reducible exact LeO.none _)
      | (with_reducible refine LeO.ite ?_ ?_)
      | (with_reducible refine LeO.bind ?_ (fun _ => ?_))
      | exact fastjson_skipWSSlow.mono _ _
      | exact LeO.none _
      | refine LeO.ite ?_ ?_
      | refine LeO.bind ?_ (fun _ => ?_)
set_option maxHeartbeats 8000000 in
set_option maxRecDepth 100000 in
theorem fastjson_skipWS.calls (k : Nat) (a0 : ByteArray) (r : ByteArray) (w : World) (h : fastjson_skipWS.f k a0 = some r) :
    Calls Tryd.prog 25 #[.string a0] w fun e w' => e = .returned (.string r) ∧ Drawn0 w w' := by
  have H : (if (a0.size : Int) = 0 then (some a0) else (if 0 < (a0.size : Int) then (if (bt a0 0) > 32 then (some a0) else ((fastjson_skipWSSlow.f k a0).bind fun t411 => (some t411))) else (none))) = some r := h
  clear h
  by_cases c2 : (a0.size : Int) = 0
  · rw [if_pos c2] at H
    have c2b0 : ((a0.size : Int) == 0) = true := beq_iff_eq.mpr c2
    have c2b1 : ((a0.size : Int) != 0) = false := bne_eq_false_iff_eq.mpr c2
    clear c2
    obtain rfl := Option.some.inj H
    go_enter Tryd.func25, Tryd.ntmps25
    go_wp2
    go_ret
    exact ⟨by first | rfl | (simp; done) | (simp [*]; done), by repeat (first | exact Drawn0.refl _ | apply Drawn0.step)⟩
  · rw [if_neg c2] at H
    have c2b0 : ((a0.size : Int) == 0) = false := beq_eq_false_iff_ne.mpr c2
    have c2b1 : ((a0.size : Int) != 0) = true := bne_iff_ne.mpr c2
    by_cases c3 : 0 < (a0.size : Int)
    · rw [if_pos c3] at H
      have c3b0 : decide (0 < (a0.size : Int)) = true := decide_eq_true c3
      have c3b1 : decide (0 < a0.size) = true := decide_eq_true (by omega)
      clear c3
      by_cases c5 : (bt a0 0) > 32
      · rw [if_pos c5] at H
        have c5b0 : decide (32 < (bt a0 0)) = true := decide_eq_true c5
        clear c5
        obtain rfl := Option.some.inj H
        have p4 : 0 ≤ (0 : Int) := (by omega)
        have q4 : 0 < a0.size := (by have : (0 : Int) < (a0.size : Int) := of_decide_eq_true (by first | (with_reducible assumption) | assumption); omega)
        have hx4 : ∀ h : 0 < a0.size, ((a0[0]'h).toNat : Int) = bt a0 0 := bt_at a0 0
        clear p4
        have qi4 : (0 < (a0.size : Int)) = True := eq_true (of_decide_eq_true (by first | (with_reducible assumption) | assumption))
        replace q4 := eq_true q4
        go_enter Tryd.func25, Tryd.ntmps25
        go_wp2
        go_ret
        exact ⟨by first | rfl | (simp; done) | (simp [*]; done), by repeat (first | exact Drawn0.refl _ | apply Drawn0.step)⟩
      · rw [if_neg c5] at H
        have c5b0 : decide (32 < (bt a0 0)) = false := decide_eq_false c5
        clear c5
        replace H := Option.bind_eq_some_iff.mp H
        obtain ⟨t411, A60, H⟩ := H
        replace H : (some t411) = some r := H
        have A6 := Aside0.mk A60
        clear A60
        obtain rfl := Option.some.inj H
        have p4 : 0 ≤ (0 : Int) := (by omega)
        have q4 : 0 < a0.size := (by have : (0 : Int) < (a0.size : Int) := of_decide_eq_true (by first | (with_reducible assumption) | assumption); omega)
        have hx4 : ∀ h : 0 < a0.size, ((a0[0]'h).toNat : Int) = bt a0 0 := bt_at a0 0
        clear p4
        have qi4 : (0 < (a0.size : Int)) = True := eq_true (of_decide_eq_true (by first | (with_reducible assumption) | assumption))
        replace q4 := eq_true q4
        go_enter Tryd.func25, Tryd.ntmps25
        go_wp2_with (first | ((with_reducible refine gate_callee (f := 42) rfl ?_); refine goesL_ (some 13) rfl rfl Tryd.func42 (by kernel_rfl) rfl #[.string a0] rfl (by (try simp only [List.map_toArray, List.map_cons, List.map_nil]); first | done | rfl | (simp only [List.length_drop, List.length_take]; rfl)) ?_; (with_reducible refine (fastjson_skipWSSlow.calls k a0 t411 _ A6.out).mono ?_); rintro e w' ⟨rfl, ⟨nd, rfl⟩⟩; refine ⟨_, rfl, ?_⟩))
        go_ret
        exact ⟨by first | rfl | (simp; done) | (simp [*]; done), by repeat (first | exact Drawn0.refl _ | apply Drawn0.step)⟩
    · rw [if_neg c3] at H
      exact absurd H (by simp)

-- NOT PRINTED: function 66 (fastjson_Object_reset)

-- NOT PRINTED: function 43 (fastjson_Value_reset)

-- NOT PRINTED: function 26 (fastjson_cache_reset)

-- NOT PRINTED: function 47 (fastjson_cache_getValue)

-- NOT PRINTED: function 67 (fastjson_Object_getKV)

-- NOT PRINTED: function 86 (bytealg_IndexByteString)


/-! ### fastjson_parseRawString: function 46 -/
mutual
def fastjson_parseRawString.j0 : Nat → ByteArray → Int → Bool → Option (ByteArray × ByteArray × Option Int)
  | 0, _, _, _ => none
  | k + 1, x0, x5, x22 => if x22 = true then (if 0 ≤ x5 then (if x5 ≤ (x0.size : Int) then (if 0 ≤ (wrap64 (x5 + 1)) then (if (wrap64 (x5 + 1)) ≤ (x0.size : Int) then (some (x0.extract 0 (x5 : Int).toNat, x0.extract ((wrap64 (x5 + 1)) : Int).toNat x0.size, none)) else (none)) else (none)) else (none)) else (none)) else (fastjson_parseRawString.l0 k x0 x5 x0)
def fastjson_parseRawString.l0 : Nat → ByteArray → Int → ByteArray → Option (ByteArray × ByteArray × Option Int)
  | 0, _, _, _ => none
  | k + 1, x0, x5, x6 => fastjson_parseRawString.l1 k x0 x5 x6 (wrap64 (x5 - 1))
def fastjson_parseRawString.j3 : Nat → ByteArray → Int → ByteArray → Int → Option (ByteArray × ByteArray × Option Int)
  | 0, _, _, _, _ => none
  | k + 1, x0, x5, x6, x7 => if (Int.tmod (IntKind.u64.wrap (wrap64 (x5 - x7))) 2) = 0 then (if 0 ≤ (wrap64 ((wrap64 ((x6.size : Int) - (x0.size : Int))) + x5)) then (if (wrap64 ((wrap64 ((x6.size : Int) - (x0.size : Int))) + x5)) ≤ (x6.size : Int) then (if 0 ≤ (wrap64 (x5 + 1)) then (if (wrap64 (x5 + 1)) ≤ (x0.size : Int) then (some (x6.extract 0 ((wrap64 ((wrap64 ((x6.size : Int) - (x0.size : Int))) + x5)) : Int).toNat, x0.extract ((wrap64 (x5 + 1)) : Int).toNat x0.size, none)) else (none)) else (none)) else (none)) else (none)) else (if 0 ≤ (wrap64 (x5 + 1)) then (if (wrap64 (x5 + 1)) ≤ (x0.size : Int) then ((strings_IndexByte.f (x0.extract ((wrap64 (x5 + 1)) : Int).toNat x0.size) 34).bind fun t414 => (if t414 < 0 then ((errors_New.f (⟨#[109, 105, 115, 115, 105, 110, 103, 32, 99, 108, 111, 115, 105, 110, 103]⟩ : ByteArray)).bind fun t415 => (some (x6, (⟨#[]⟩ : ByteArray), t415))) else (if t414 = 0 then (if 0 ≤ (wrap64 ((wrap64 ((x6.size : Int) - ((x0.extract ((wrap64 (x5 + 1)) : Int).toNat x0.size).size : Int))) + t414)) then (if (wrap64 ((wrap64 ((x6.size : Int) - ((x0.extract ((wrap64 (x5 + 1)) : Int).toNat x0.size).size : Int))) + t414)) ≤ (x6.size : Int) then (if 0 ≤ (wrap64 (t414 + 1)) then (if (wrap64 (t414 + 1)) ≤ ((x0.extract ((wrap64 (x5 + 1)) : Int).toNat x0.size).size : Int) then (some (x6.extract 0 ((wrap64 ((wrap64 ((x6.size : Int) - ((x0.extract ((wrap64 (x5 + 1)) : Int).toNat x0.size).size : Int))) + t414)) : Int).toNat, (x0.extract ((wrap64 (x5 + 1)) : Int).toNat x0.size).extract ((wrap64 (t414 + 1)) : Int).toNat (x0.extract ((wrap64 (x5 + 1)) : Int).toNat x0.size).size, none)) else (none)) else (none)) else (none)) else (none)) else (if 0 ≤ (wrap64 (t414 - 1)) then (if (wrap64 (t414 - 1)) < ((x0.extract ((wrap64 (x5 + 1)) : Int).toNat x0.size).size : Int) then (if (bt (x0.extract ((wrap64 (x5 + 1)) : Int).toNat x0.size) (wrap64 (t414 - 1))) = 92 then (fastjson_parseRawString.l0 k (x0.extract ((wrap64 (x5 + 1)) : Int).toNat x0.size) t414 x6) else (if 0 ≤ (wrap64 ((wrap64 ((x6.size : Int) - ((x0.extract ((wrap64 (x5 + 1)) : Int).toNat x0.size).size : Int))) + t414)) then (if (wrap64 ((wrap64 ((x6.size : Int) - ((x0.extract ((wrap64 (x5 + 1)) : Int).toNat x0.size).size : Int))) + t414)) ≤ (x6.size : Int) then (if 0 ≤ (wrap64 (t414 + 1)) then (if (wrap64 (t414 + 1)) ≤ ((x0.extract ((wrap64 (x5 + 1)) : Int).toNat x0.size).size : Int) then (some (x6.extract 0 ((wrap64 ((wrap64 ((x6.size : Int) - ((x0.extract ((wrap64 (x5 + 1)) : Int).toNat x0.size).size : Int))) + t414)) : Int).toNat, (x0.extract ((wrap64 (x5 + 1)) : Int).toNat x0.size).extract ((wrap64 (t414 + 1)) : Int).toNat (x0.extract ((wrap64 (x5 + 1)) : Int).toNat x0.size).size, none)) else (none)) else (none)) else (none)) else (none))) else (none)) else (none))))) else (none)) else (none))
def fastjson_parseRawString.l1 : Nat → ByteArray → Int → ByteArray → Int → Option (ByteArray × ByteArray × Option Int)
  | 0, _, _, _, _ => none
  | k + 1, x0, x5, x6, x7 => if x7 > 0 then (if 0 ≤ (wrap64 (x7 - 1)) then (if (wrap64 (x7 - 1)) < (x0.size : Int) then (if (bt x0 (wrap64 (x7 - 1))) = 92 then (fastjson_parseRawString.l1 k x0 x5 x6 (wrap64 (x7 - 1))) else (fastjson_parseRawString.j3 k x0 x5 x6 x7)) else (none)) else (none)) else (fastjson_parseRawString.j3 k x0 x5 x6 x7)
end
def fastjson_parseRawString.f (k : Nat) (a0 : ByteArray) : Option (ByteArray × ByteArray × Option Int) := (strings_IndexByte.f a0 34).bind fun t412 => (if t412 < 0 then ((errors_New.f (⟨#[109, 105, 115, 115, 105, 110, 103, 32, 99, 108, 111, 115, 105, 110, 103]⟩ : ByteArray)).bind fun t413 => (some (a0, (⟨#[]⟩ : ByteArray), t413))) else (if t412 = 0 then (fastjson_parseRawString.j0 k a0 t412 true) else (if 0 ≤ (wrap64 (t412 - 1)) then (if (wrap64 (t412 - 1)) < (a0.size : Int) then (fastjson_parseRawString.j0 k a0 t412 ((bt a0 (wrap64 (t412 - 1))) != 92)) else (none)) else (none))))
theorem fastjson_parseRawString.mono_l : ∀ k, (∀ y0 y1 y2, LeO (fastjson_parseRawString.j0 k y0 y1 y2) (fastjson_parseRawString.j0 (k + 1) y0 y1 y2)) ∧ (∀ y0 y1 y2, LeO (fastjson_parseRawString.l0 k y0 y1 y2) (fastjson_parseRawString.l0 (k + 1) y0 y1 y2)) ∧ (∀ y0 y1 y2 y3, LeO (fastjson_parseRawString.j3 k y0 y1 y2 y3) (fastjson_parseRawString.j3 (k + 1) y0 y1 y2 y3)) ∧ (∀ y0 y1 y2 y3, LeO (fastjson_parseRawString.l1 k y0 y1 y2 y3) (fastjson_parseRawString.l1 (k + 1) y0 y1 y2 y3))
  | 0 => ⟨fun _ _ _ r h => by simp [fastjson_parseRawString.j0] at h, fun _ _ _ r h => by simp [fastjson_parseRawString.l0] at h, fun _ _ _ _ r h => by simp [fastjson_parseRawString.j3] at h, fun _ _ _ _ r h => by simp [fastjson_parseRawString.l1] at h⟩
  | k + 1 => by
    obtain ⟨ih0, ih1, ih2, ih3⟩ := fastjson_parseRawString.mono_l k
    refine ⟨?_, ?_, ?_, ?_⟩
    · intro y0 y1 y2
      unfold fastjson_parseRawString.j0
      repeat' first
      | (with_reducible exact ih0 _ _ _)
      | (with_reducible exact ih1 _ _ _)
      | (with_reducible exact ih2 _ _ _ _)
      | (with_reducible exact ih3 _ _ _ _)
      | (with_reducible exact LeO.refl _)
      | (with_reducible exact LeO.none _)
      | (with_reducible refine LeO.ite ?_ ?_)
      | (with_reducible refine LeO.bind ?_ (fun _ => ?_))
      | exact ih0 _ _ _
      | exact ih1 _ _ _
      | exact ih2 _ _ _ _
      | exact ih3 _ _ _ _
      | exact LeO.none _
      | refine LeO.ite ?_ ?_
      | refine LeO.bind ?_ (fun _ => ?_)
    · intro y0 y1 y2
      unfold fastjson_parseRawString.l0
      repeat' first
      | (with_reducible exact ih0 _ _ _)
      | (with_reducible exact ih1 _ _ _)
      | (with_reducible exact ih2 _ _ _ _)
      | (with_reducible exact ih3 _ _ _ _)
      | (with_reducible exact LeO.refl _)
      | (with_reducible exact LeO.none _)
      | (with_reducible refine LeO.ite ?_ ?_)
      | (with_reducible refine LeO.bind ?_ (fun _ => ?_))
      | exact ih0 _ _ _
      | exact ih1 _ _ _
      | exact ih2 _ _ _ _
      | exact ih3 _ _ _ _
      | exact LeO.none _
      | refine LeO.ite ?_ ?_
      | refine LeO.bind ?_ (fun _ => ?_)
    · intro y0 y1 y2 y3
      unfold fastjson_parseRawString.j3
      repeat' first
      | (with_reducible exact ih0 _ _ _)
      | (with_reducible exact ih1 _ _ _)
      | (with_reducible exact ih2 _ _ _ _)
      | (with_reducible exact ih3 _ _ _ _)
      | (with_reducible exact LeO.refl _)
      | (with_reducible exact LeO.none _)
      | (with_reducible refine LeO.ite ?_ ?_)
      | (with_reducible refine LeO.bind ?_ (fun _ => ?_))
      | exact ih0 _ _ _
      | exact ih1 _ _ _
      | exact ih2 _ _ _ _
      | exact ih3 _ _ _ _
      | exact LeO.none _
      | refine LeO.ite ?_ ?_
      | refine LeO.bind ?_ (fun _ => ?_)
    · intro y0 y1 y2 y3
      unfold fastjson_parseRawString.l1
      repeat' first
      | (with_reducible exact ih0 _ _ _)
      | (with_reducible exact ih1 _ _ _)
      | (with_reducible exact ih2 _ _ _ _)
      | (with_reducible exact ih3 _ _ _ _)
      | (with_reducible exact LeO.refl _)
      | (with_reducible exact LeO.none _)
      | (with_reducible refine LeO.ite ?_ ?_)
      | (with_reducible refine LeO.bind ?_ (fun _ => ?_))
      | exact ih0 _ _ _
      | exact ih1 _ _ _
      | exact ih2 _ _ _ _
      | exact ih3 _ _ _ _
      | exact LeO.none _
      | refine LeO.ite ?_ ?_
      | refine LeO.bind ?_ (fun _ => ?_)
theorem fastjson_parseRawString.mono : ∀ a0 k, LeO (fastjson_parseRawString.f k a0) (fastjson_parseRawString.f (k + 1) a0) := by
  intro a0 k
  obtain ⟨ih0, ih1, ih2, ih3⟩ := fastjson_parseRawString.mono_l k
  unfold fastjson_parseRawString.f
  repeat' first
      | (with_reducible exact ih0 _ _ _)
      | (with_reducible exact ih1 _ _ _)
      | (with_reducible exact ih2 _ _ _ _)
      | (with_reducible exact ih3 _ _ _ _)
      | (with_reducible exact LeO.refl _)
      | (with_reducible exact LeO.none _)
      | (with_reducible refine LeO.ite ?_ ?_)
      | (with_reducible refine LeO.bind ?_ (fun _ => ?_))
      | exact ih0 _ _ _
      | exact ih1 _ _ _
      | exact ih2 _ _ _ _
      | exact ih3 _ _ _ _
      | exact LeO.none _
      | refine LeO.ite ?_ ?_
      | refine LeO.bind ?_ (fun _ => ?_)
set_option maxHeartbeats 8000000 in
set_option maxRecDepth 100000 in
theorem fastjson_parseRawString.calls (k : Nat) (a0 : ByteArray) (r1 : ByteArray) (r2 : ByteArray) (r3 : Option Int) (w : World) (h : fastjson_parseRawString.f k a0 = some (r1, r2, r3)) :
    Calls Tryd.prog 46 #[.string a0] w fun e w' => ∃ x2_ : TypeId × Value, e = .returned (.tuple #[.string r1, .string r2, errX x2_ r3]) ∧ Below w.heap.size w w' := by
  have HB := Aside0.mk (Below.refl w.heap.size w)
  have H : ((strings_IndexByte.f a0 34).bind fun t412 => (if t412 < 0 then ((errors_New.f (⟨#[109, 105, 115, 115, 105, 110, 103, 32, 99, 108, 111, 115, 105, 110, 103]⟩ : ByteArray)).bind fun t413 => (some (a0, (⟨#[]⟩ : ByteArray), t413))) else (if t412 = 0 then (fastjson_parseRawString.j0 k a0 t412 true) else (if 0 ≤ (wrap64 (t412 - 1)) then (if (wrap64 (t412 - 1)) < (a0.size : Int) then (fastjson_parseRawString.j0 k a0 t412 ((bt a0 (wrap64 (t412 - 1))) != 92)) else (none)) else (none))))) = some (r1, r2, r3) := h
  clear h
  replace H := Option.bind_eq_some_iff.mp H
  obtain ⟨t412, A20, H⟩ := H
  replace H : (if t412 < 0 then ((errors_New.f (⟨#[109, 105, 115, 115, 105, 110, 103, 32, 99, 108, 111, 115, 105, 110, 103]⟩ : ByteArray)).bind fun t413 => (some (a0, (⟨#[]⟩ : ByteArray), t413))) else (if t412 = 0 then (fastjson_parseRawString.j0 k a0 t412 true) else (if 0 ≤ (wrap64 (t412 - 1)) then (if (wrap64 (t412 - 1)) < (a0.size : Int) then (fastjson_parseRawString.j0 k a0 t412 ((bt a0 (wrap64 (t412 - 1))) != 92)) else (none)) else (none)))) = some (r1, r2, r3) := H
  have A2 := Aside0.mk A20
  clear A20
  by_cases c3 : t412 < 0
  · rw [if_pos c3] at H
    have c3b0 : decide (t412 < 0) = true := decide_eq_true c3
    clear c3
    replace H := Option.bind_eq_some_iff.mp H
    obtain ⟨t413, A40, H⟩ := H
    replace H : (some (a0, (⟨#[]⟩ : ByteArray), t413)) = some (r1, r2, r3) := H
    have A4 := Aside0.mk A40
    clear A40
    simp only [Option.some.injEq, Prod.mk.injEq] at H
    obtain ⟨rfl, rfl, rfl⟩ := H
    go_enter Tryd.func46, Tryd.ntmps46
    go_wp2_with (first | (go_at_call 69; (with_reducible refine (strings_IndexByte.calls a0 34 t412 _ A2.out).mono ?_); rintro e w' ⟨rfl, ⟨nd, rfl⟩⟩; (try first | exact ⟨rfl, _, World.drewN_drewN _ _ _⟩ | exact ⟨rfl, _, Eq.trans (World.drewN_drewN _ _ _) (congrArg (World.drewN _) (Nat.add_assoc _ _ _))⟩)) | (go_at_call 29; (with_reducible refine (errors_New.calls (⟨#[109, 105, 115, 115, 105, 110, 103, 32, 99, 108, 111, 115, 105, 110, 103]⟩ : ByteArray) t413 _ A4.out).mono ?_); rintro e w5 ⟨ex_t413, rfl, hb⟩; have n0_ := Aside0.mk (below_step (by repeat (first | (with_reducible first | exact HB.out | apply below_alloc | apply pw_below_drewN | apply below_drew1) | exact HB.out)) hb); clear HB; have HB := n0_; clear n0_; (try clear hb); (try clear hb2); (try clear hk); (try clear hi); (try simp only [errX_none, errX_some])))
    repeat (go_quiet (first | (go_at_call 69; (with_reducible refine (strings_IndexByte.calls a0 34 t412 _ A2.out).mono ?_); rintro e w' ⟨rfl, ⟨nd, rfl⟩⟩; (try first | exact ⟨rfl, _, World.drewN_drewN _ _ _⟩ | exact ⟨rfl, _, Eq.trans (World.drewN_drewN _ _ _) (congrArg (World.drewN _) (Nat.add_assoc _ _ _))⟩)) | (go_at_call 29; (with_reducible refine (errors_New.calls (⟨#[109, 105, 115, 115, 105, 110, 103, 32, 99, 108, 111, 115, 105, 110, 103]⟩ : ByteArray) t413 _ A4.out).mono ?_); rintro e w5 ⟨ex_t413, rfl, hb⟩; have n0_ := Aside0.mk (below_step (by repeat (first | (with_reducible first | exact HB.out | apply below_alloc | apply pw_below_drewN | apply below_drew1) | exact HB.out)) hb); clear HB; have HB := n0_; clear n0_; (try clear hb); (try clear hb2); (try clear hk); (try clear hi); (try simp only [errX_none, errX_some]))); try go_wp2_with (first | (go_at_call 69; (with_reducible refine (strings_IndexByte.calls a0 34 t412 _ A2.out).mono ?_); rintro e w' ⟨rfl, ⟨nd, rfl⟩⟩; (try first | exact ⟨rfl, _, World.drewN_drewN _ _ _⟩ | exact ⟨rfl, _, Eq.trans (World.drewN_drewN _ _ _) (congrArg (World.drewN _) (Nat.add_assoc _ _ _))⟩)) | (go_at_call 29; (with_reducible refine (errors_New.calls (⟨#[109, 105, 115, 115, 105, 110, 103, 32, 99, 108, 111, 115, 105, 110, 103]⟩ : ByteArray) t413 _ A4.out).mono ?_); rintro e w5 ⟨ex_t413, rfl, hb⟩; have n0_ := Aside0.mk (below_step (by repeat (first | (with_reducible first | exact HB.out | apply below_alloc | apply pw_below_drewN | apply below_drew1) | exact HB.out)) hb); clear HB; have HB := n0_; clear n0_; (try clear hb); (try clear hb2); (try clear hk); (try clear hi); (try simp only [errX_none, errX_some]))))
    go_ret3
    first | exact ⟨ex_t413, by first | rfl | (simp [errX_none, errX_some] <;> rfl) | (simp [*, errX_none, errX_some] <;> rfl), by repeat (first | (with_reducible first | exact HB.out | apply below_alloc | apply pw_below_drewN | apply below_drew1) | exact HB.out)⟩ | exact ⟨ex_t413.1, ex_t413.2, by first | rfl | (simp [errX_none, errX_some] <;> rfl) | (simp [*, errX_none, errX_some] <;> rfl), by repeat (first | (with_reducible first | exact HB.out | apply below_alloc | apply pw_below_drewN | apply below_drew1) | exact HB.out)⟩ | exact ⟨⟨ex_t413, by first | rfl | (simp [errX_none, errX_some] <;> rfl) | (simp [*, errX_none, errX_some] <;> rfl)⟩, by repeat (first | (with_reducible first | exact HB.out | apply below_alloc | apply pw_below_drewN | apply below_drew1) | exact HB.out)⟩ | exact ⟨⟨ex_t413.1, ex_t413.2, by first | rfl | (simp [errX_none, errX_some] <;> rfl) | (simp [*, errX_none, errX_some] <;> rfl)⟩, by repeat (first | (with_reducible first | exact HB.out | apply below_alloc | apply pw_below_drewN | apply below_drew1) | exact HB.out)⟩
  · rw [if_neg c3] at H
    have c3b0 : decide (t412 < 0) = false := decide_eq_false c3
    clear c3
    have HC6 := Aside0.mk H
    clear H
    go_enter Tryd.func46, Tryd.ntmps46
    go_upto_region 4 with (first | (go_at_call 69; (with_reducible refine (strings_IndexByte.calls a0 34 t412 _ A2.out).mono ?_); rintro e w' ⟨rfl, ⟨nd, rfl⟩⟩; (try first | exact ⟨rfl, _, World.drewN_drewN _ _ _⟩ | exact ⟨rfl, _, Eq.trans (World.drewN_drewN _ _ _) (congrArg (World.drewN _) (Nat.add_assoc _ _ _))⟩)))
    repeat (go_quiet (first | (go_at_call 69; (with_reducible refine (strings_IndexByte.calls a0 34 t412 _ A2.out).mono ?_); rintro e w' ⟨rfl, ⟨nd, rfl⟩⟩; (try first | exact ⟨rfl, _, World.drewN_drewN _ _ _⟩ | exact ⟨rfl, _, Eq.trans (World.drewN_drewN _ _ _) (congrArg (World.drewN _) (Nat.add_assoc _ _ _))⟩))); go_upto_region 4 with (first | (go_at_call 69; (with_reducible refine (strings_IndexByte.calls a0 34 t412 _ A2.out).mono ?_); rintro e w' ⟨rfl, ⟨nd, rfl⟩⟩; (try first | exact ⟨rfl, _, World.drewN_drewN _ _ _⟩ | exact ⟨rfl, _, Eq.trans (World.drewN_drewN _ _ _) (congrArg (World.drewN _) (Nat.add_assoc _ _ _))⟩))))
    (try simp only [Act.put, List.setIfInBounds_toArray, List.set_cons_zero, List.set_cons_succ])
    go_cut [22] (fun v22 wc => ∃ (kq : Nat) (x22_5 : Bool), v22 = .bool x22_5 ∧ Aside0 (fastjson_parseRawString.j0 kq a0 t412 x22_5 = some (r1, r2, r3)) ∧ Aside0 (kq ≤ k) ∧ Aside0 (Below w.heap.size w wc))
    case first =>
      have H := HC6.out
      clear HC6
      by_cases c7 : t412 = 0
      · rw [if_pos c7] at H
        have c7b0 : (t412 == 0) = true := beq_iff_eq.mpr c7
        have c7b1 : (t412 != 0) = false := bne_eq_false_iff_eq.mpr c7
        clear c7
        (first | rw [c7b0] | (simp only [i64_w, i32_w]; rw [c7b0]) | skip)
        have H' := Aside0.mk H
        clear H
        go_wp2
        repeat (go_quiet (fail); try go_wp2)
        (first | go_meet | (rw [← c7b0]; go_meet))
        case rel => exact ⟨_, (true), (by first | rfl | (simp; done) | (simp [*]; done)), H', ⟨by first | omega | exact Nat.le_refl _⟩, ⟨by repeat (first | (with_reducible first | exact HB.out | apply below_alloc | apply pw_below_drewN | apply below_drew1) | exact HB.out)⟩⟩
      · rw [if_neg c7] at H
        have c7b0 : (t412 == 0) = false := beq_eq_false_iff_ne.mpr c7
        have c7b1 : (t412 != 0) = true := bne_iff_ne.mpr c7
        (first | rw [c7b0] | (simp only [i64_w, i32_w]; rw [c7b0]) | skip)
        obtain ⟨ji8, hji8⟩ : ∃ j_ : Int, (wrap64 (t412 - 1)) = j_ := ⟨_, rfl⟩
        replace H : (if 0 ≤ (ji8) then (if (ji8) < (a0.size : Int) then (fastjson_parseRawString.j0 k a0 t412 ((bt a0 (ji8)) != 92)) else (none)) else (none)) = some (r1, r2, r3) := by first | (rw [hji8] at H; exact H) | (simp only [hji8] at H ⊢; exact H)
        have hji8w : (IntKind.i64.wrap (t412 - 1)) = ji8 := (i64_w _).trans hji8
        by_cases c9 : 0 ≤ (ji8)
        · rw [if_pos c9] at H
          have c9b0 : decide (0 ≤ (ji8)) = true := decide_eq_true c9
          clear c9
          by_cases c10 : (ji8) < (a0.size : Int)
          · rw [if_pos c10] at H
            have c10b0 : decide ((ji8) < (a0.size : Int)) = true := decide_eq_true c10
            clear c10
            have H' := Aside0.mk H
            clear H
            have p11 : 0 ≤ ((ji8) : Int) := of_decide_eq_true (by first | (with_reducible assumption) | assumption)
            have q11 : (ji8) < (a0.size : Int) := of_decide_eq_true (by first | (with_reducible assumption) | assumption)
            have hx11 := bt_at a0 (ji8)
            replace p11 := eq_true p11
            replace q11 := eq_true q11
            go_wp2
            repeat (go_quiet (fail); try go_wp2)
            (first | go_meet | (rw [← c7b0]; go_meet))
            case rel => exact ⟨_, (((bt a0 (ji8)) != 92)), (by first | rfl | (simp; done) | (simp only [← hji8] <;> (first | rfl | (simp; done))) | (simp [*]; done) | (simp only [*]; done)), H', ⟨by first | omega | exact Nat.le_refl _⟩, ⟨by repeat (first | (with_reducible first | exact HB.out | apply below_alloc | apply pw_below_drewN | apply below_drew1) | exact HB.out)⟩⟩
          · rw [if_neg c10] at H
            exact absurd H (by simp)
        · rw [if_neg c9] at H
          exact absurd H (by simp)
    case rest =>
      clear HC6
      try clear c1
      try clear p1
      try clear q1
      try clear hx1
      try clear p2
      try clear c3
      try clear c3b0
      try clear c4
      try clear p6
      try clear c7
      try clear c7b0
      try clear c7b1
      try clear c9
      try clear c9b0
      try clear c10
      try clear c10b0
      try clear p11
      try clear q11
      try clear hx11
      try clear p11
      try clear q11
      obtain ⟨kq, x22_5, rfl, HA, HJ5, HB⟩ := hcut
      cases kq with
      | zero => exact absurd HA.out (by simp [fastjson_parseRawString.j0])
      | succ kj5 =>
        have H := HA.out
        clear HA
        simp only [fastjson_parseRawString.j0] at H
        by_cases c12 : x22_5 = true
        · subst c12
          have H1 : (if 0 ≤ t412 then (if t412 ≤ (a0.size : Int) then (if 0 ≤ (wrap64 (t412 + 1)) then (if (wrap64 (t412 + 1)) ≤ (a0.size : Int) then (some (a0.extract 0 (t412 : Int).toNat, a0.extract ((wrap64 (t412 + 1)) : Int).toNat a0.size, none)) else (none)) else (none)) else (none)) else (none)) = some (r1, r2, r3) := by rw [if_pos rfl] at H; exact H
          clear H
          have H := H1
          clear H1
          by_cases c13 : 0 ≤ t412
          · rw [if_pos c13] at H
            have c13b0 := eq_true c13
            have c13b1 : decide (0 ≤ t412) = true := decide_eq_true c13
            clear c13
            by_cases c14 : t412 ≤ (a0.size : Int)
            · rw [if_pos c14] at H
              have c14b0 := eq_true c14
              have c14b1 : decide (t412 ≤ (a0.size : Int)) = true := decide_eq_true c14
              clear c14
              obtain ⟨ji15, hji15⟩ : ∃ j_ : Int, (wrap64 (t412 + 1)) = j_ := ⟨_, rfl⟩
              replace H : (if 0 ≤ (ji15) then (if (ji15) ≤ (a0.size : Int) then (some (a0.extract 0 (t412 : Int).toNat, a0.extract ((ji15) : Int).toNat a0.size, none)) else (none)) else (none)) = some (r1, r2, r3) := by first | (rw [hji15] at H; exact H) | (simp only [hji15] at H ⊢; exact H)
              have hji15w : (IntKind.i64.wrap (t412 + 1)) = ji15 := (i64_w _).trans hji15
              by_cases c16 : 0 ≤ (ji15)
              · rw [if_pos c16] at H
                have c16b0 := eq_true c16
                have c16b1 : decide (0 ≤ (ji15)) = true := decide_eq_true c16
                clear c16
                by_cases c17 : (ji15) ≤ (a0.size : Int)
                · rw [if_pos c17] at H
                  have c17b0 := eq_true c17
                  have c17b1 : decide ((ji15) ≤ (a0.size : Int)) = true := decide_eq_true c17
                  clear c17
                  simp only [Option.some.injEq, Prod.mk.injEq] at H
                  obtain ⟨rfl, rfl, rfl⟩ := H
                  go_wp2
                  repeat (go_quiet (fail); try go_wp2)
                  go_ret3
                  first | exact ⟨noX, by first | rfl | (simp [errX_none, errX_some] <;> rfl) | (simp only [← hji15]; first | rfl | (simp [errX_none, errX_some] <;> rfl)) | (simp [*, errX_none, errX_some] <;> rfl), by repeat (first | (with_reducible first | exact HB.out | apply below_alloc | apply pw_below_drewN | apply below_drew1) | exact HB.out)⟩ | exact ⟨noX.1, noX.2, by first | rfl | (simp [errX_none, errX_some] <;> rfl) | (simp only [← hji15]; first | rfl | (simp [errX_none, errX_some] <;> rfl)) | (simp [*, errX_none, errX_some] <;> rfl), by repeat (first | (with_reducible first | exact HB.out | apply below_alloc | apply pw_below_drewN | apply below_drew1) | exact HB.out)⟩ | exact ⟨⟨noX, by first | rfl | (simp [errX_none, errX_some] <;> rfl) | (simp only [← hji15]; first | rfl | (simp [errX_none, errX_some] <;> rfl)) | (simp [*, errX_none, errX_some] <;> rfl)⟩, by repeat (first | (with_reducible first | exact HB.out | apply below_alloc | apply pw_below_drewN | apply below_drew1) | exact HB.out)⟩ | exact ⟨⟨noX.1, noX.2, by first | rfl | (simp [errX_none, errX_some] <;> rfl) | (simp only [← hji15]; first | rfl | (simp [errX_none, errX_some] <;> rfl)) | (simp [*, errX_none, errX_some] <;> rfl)⟩, by repeat (first | (with_reducible first | exact HB.out | apply below_alloc | apply pw_below_drewN | apply below_drew1) | exact HB.out)⟩
                · rw [if_neg c17] at H
                  exact absurd H (by simp)
              · rw [if_neg c16] at H
                exact absurd H (by simp)
            · rw [if_neg c14] at H
              exact absurd H (by simp)
          · rw [if_neg c13] at H
            exact absurd H (by simp)
        · replace c12 := Bool.eq_false_iff.mpr c12
          subst c12
          have H1 : (fastjson_parseRawString.l0 kj5 a0 t412 a0) = some (r1, r2, r3) := by rw [if_neg (show ¬ (false = true) by decide)] at H; exact H
          clear H
          have H := H1
          clear H1
          have H' := Aside0.mk H
          clear H
          go_wp2
          repeat (go_quiet (fail); try go_wp2)
          (try simp only [Act.put, List.setIfInBounds_toArray, List.set_cons_zero, List.set_cons_succ])
          go_loopg [0, 5] kj5 (fun kq v0 v5 w' => ∃ (x0_2 : ByteArray) (x5_2 : Int), v0 = .string x0_2 ∧ v5 = .int .i64 x5_2 ∧ Aside0 (fastjson_parseRawString.l0 kq x0_2 x5_2 a0 = some (r1, r2, r3)) ∧ Aside0 (kq ≤ kj5) ∧ Aside0 (Below w.heap.size w w'))
          case atStart => exact ⟨(a0), (t412), (by first | rfl | (simp; done) | (simp [*]; done)), (by first | rfl | (simp; done) | (simp [*]; done)), H', ⟨Nat.le_refl _⟩, ⟨by repeat (first | (with_reducible first | exact HB.out | apply below_alloc | apply pw_below_drewN | apply below_drew1) | exact HB.out)⟩⟩
          case round =>
            clear H'
            try clear c1
            try clear p1
            try clear q1
            try clear hx1
            try clear p2
            try clear c3
            try clear c3b0
            try clear c4
            try clear p6
            try clear c7
            try clear c7b0
            try clear c7b1
            try clear c9
            try clear c9b0
            try clear c10
            try clear c10b0
            try clear p11
            try clear q11
            try clear hx11
            try clear c12
            try clear c13
            try clear c13b0
            try clear c13b1
            try clear c14
            try clear c14b0
            try clear c14b1
            try clear c16
            try clear c16b0
            try clear c16b1
            try clear c17
            try clear c17b0
            try clear c17b1
            try clear p1
            try clear p11
            try clear p2
            try clear p6
            try clear q1
            try clear q11
            obtain ⟨x0_2, x5_2, rfl, rfl, HA, HK2, HB⟩ := hrel
            cases gk with
            | zero => exact absurd HA.out (by simp [fastjson_parseRawString.l0])
            | succ k2 =>
              have H := HA.out
              clear HA
              simp only [fastjson_parseRawString.l0] at H
              have HC18 := Aside0.mk H
              clear H
              go_upto_block 2 with (fail)
              repeat (go_quiet (fail); go_upto_block 2 with (fail))
              go_cut [7] (fun v7 wc => ∃ (kq : Nat) (x7_17 : Int), v7 = .int .i64 x7_17 ∧ Aside0 (fastjson_parseRawString.j3 kq x0_2 x5_2 a0 x7_17 = some (r1, r2, r3)) ∧ Aside0 (kq ≤ k2) ∧ Aside0 (Below w.heap.size w wc))
              case first =>
                have H := HC18.out
                clear HC18
                have H' := Aside0.mk H
                clear H
                go_wp2
                repeat (go_quiet (fail); try go_wp2)
                (try simp only [Act.put, List.setIfInBounds_toArray, List.set_cons_zero, List.set_cons_succ])
                go_loopg [7] k2 (fun kq v7 w' => ∃ (x7_3 : Int), v7 = .int .i64 x7_3 ∧ Aside0 (fastjson_parseRawString.l1 kq x0_2 x5_2 a0 x7_3 = some (r1, r2, r3)) ∧ Aside0 (kq ≤ k2) ∧ Aside0 (Below w.heap.size w w'))
                case atStart => exact ⟨(wrap64 (x5_2 - 1)), (by first | rfl | (simp; done) | (simp [*]; done)), H', ⟨Nat.le_refl _⟩, ⟨by repeat (first | (with_reducible first | exact HB.out | apply below_alloc | apply pw_below_drewN | apply below_drew1) | exact HB.out)⟩⟩
                case round =>
                  clear H'
                  try clear c1
                  try clear p1
                  try clear q1
                  try clear hx1
                  try clear p2
                  try clear c3
                  try clear c3b0
                  try clear c4
                  try clear p6
                  try clear c7
                  try clear c7b0
                  try clear c7b1
                  try clear c9
                  try clear c9b0
                  try clear c10
                  try clear c10b0
                  try clear p11
                  try clear q11
                  try clear hx11
                  try clear c12
                  try clear c13
                  try clear c13b0
                  try clear c13b1
                  try clear c14
                  try clear c14b0
                  try clear c14b1
                  try clear c16
                  try clear c16b0
                  try clear c16b1
                  try clear c17
                  try clear c17b0
                  try clear c17b1
                  try clear p1
                  try clear p11
                  try clear p2
                  try clear p6
                  try clear q1
                  try clear q11
                  obtain ⟨x7_3, rfl, HA, HK3, HB⟩ := hrel
                  cases gk with
                  | zero => exact absurd HA.out (by simp [fastjson_parseRawString.l1])
                  | succ k3 =>
                    have H := HA.out
                    clear HA
                    simp only [fastjson_parseRawString.l1] at H
                    by_cases c19 : x7_3 > 0
                    · rw [if_pos c19] at H
                      have c19b0 : decide (0 < x7_3) = true := decide_eq_true c19
                      clear c19
                      (first | rw [c19b0] | (simp only [i64_w, i32_w]; rw [c19b0]) | skip)
                      obtain ⟨ji20, hji20⟩ : ∃ j_ : Int, (wrap64 (x7_3 - 1)) = j_ := ⟨_, rfl⟩
                      replace H : (if 0 ≤ (ji20) then (if (ji20) < (x0_2.size : Int) then (if (bt x0_2 (ji20)) = 92 then (fastjson_parseRawString.l1 k3 x0_2 x5_2 a0 ji20) else (fastjson_parseRawString.j3 k3 x0_2 x5_2 a0 x7_3)) else (none)) else (none)) = some (r1, r2, r3) := by first | (rw [hji20] at H; exact H) | (simp only [hji20] at H ⊢; exact H)
                      have hji20w : (IntKind.i64.wrap (x7_3 - 1)) = ji20 := (i64_w _).trans hji20
                      by_cases c21 : 0 ≤ (ji20)
                      · rw [if_pos c21] at H
                        have c21b0 : decide (0 ≤ (ji20)) = true := decide_eq_true c21
                        clear c21
                        by_cases c22 : (ji20) < (x0_2.size : Int)
                        · rw [if_pos c22] at H
                          have c22b0 : decide ((ji20) < (x0_2.size : Int)) = true := decide_eq_true c22
                          clear c22
                          by_cases c24 : (bt x0_2 (ji20)) = 92
                          · rw [if_pos c24] at H
                            have c24b0 : ((bt x0_2 (ji20)) == 92) = true := beq_iff_eq.mpr c24
                            have c24b1 : ((bt x0_2 (ji20)) != 92) = false := bne_eq_false_iff_eq.mpr c24
                            clear c24
                            have H' := Aside0.mk H
                            clear H
                            have p23 : 0 ≤ ((ji20) : Int) := of_decide_eq_true (by first | (with_reducible assumption) | assumption)
                            have q23 : (ji20) < (x0_2.size : Int) := of_decide_eq_true (by first | (with_reducible assumption) | assumption)
                            have hx23 := bt_at x0_2 (ji20)
                            replace p23 := eq_true p23
                            replace q23 := eq_true q23
                            go_wp2
                            repeat (go_quiet (fail); try go_wp2)
                            go_roundg k3
                            case measure => have := HJ5.out; have := HK2.out; have := HK3.out; omega
                            case rel => exact ⟨(ji20), (by first | rfl | (simp; done) | (simp only [← hji20] <;> (first | rfl | (simp; done))) | (simp [*]; done) | (simp only [*]; done)), H', ⟨by have := HJ5.out; have := HK2.out; have := HK3.out; omega⟩, ⟨by repeat (first | (with_reducible first | exact HB.out | apply below_alloc | apply pw_below_drewN | apply below_drew1) | exact HB.out)⟩⟩
                          · rw [if_neg c24] at H
                            have c24b0 : ((bt x0_2 (ji20)) == 92) = false := beq_eq_false_iff_ne.mpr c24
                            have c24b1 : ((bt x0_2 (ji20)) != 92) = true := bne_iff_ne.mpr c24
                            have H' := Aside0.mk H
                            clear H
                            have p23 : 0 ≤ ((ji20) : Int) := of_decide_eq_true (by first | (with_reducible assumption) | assumption)
                            have q23 : (ji20) < (x0_2.size : Int) := of_decide_eq_true (by first | (with_reducible assumption) | assumption)
                            have hx23 := bt_at x0_2 (ji20)
                            replace p23 := eq_true p23
                            replace q23 := eq_true q23
                            go_wp2
                            repeat (go_quiet (fail); try go_wp2)
                            (first | go_meet | (rw [← c24b0]; go_meet))
                            case rel => exact ⟨_, (x7_3), (by first | rfl | (simp; done) | (simp [*]; done)), H', ⟨by have := HJ5.out; have := HK2.out; have := HK3.out; first | omega | exact Nat.le_refl _⟩, ⟨by repeat (first | (with_reducible first | exact HB.out | apply below_alloc | apply pw_below_drewN | apply below_drew1) | exact HB.out)⟩⟩
                        · rw [if_neg c22] at H
                          exact absurd H (by simp)
                      · rw [if_neg c21] at H
                        exact absurd H (by simp)
                    · rw [if_neg c19] at H
                      have c19b0 : decide (0 < x7_3) = false := decide_eq_false c19
                      clear c19
                      (first | rw [c19b0] | (simp only [i64_w, i32_w]; rw [c19b0]) | skip)
                      have H' := Aside0.mk H
                      clear H
                      go_wp2
                      repeat (go_quiet (fail); try go_wp2)
                      (first | go_meet)
                      case rel => exact ⟨_, (x7_3), (by first | rfl | (simp; done) | (simp [*]; done)), H', ⟨by have := HJ5.out; have := HK2.out; have := HK3.out; first | omega | exact Nat.le_refl _⟩, ⟨by repeat (first | (with_reducible first | exact HB.out | apply below_alloc | apply pw_below_drewN | apply below_drew1) | exact HB.out)⟩⟩
              case rest =>
                clear HC18
                try clear c1
                try clear p1
                try clear q1
                try clear hx1
                try clear c2
                try clear p2
                try clear q2
                try clear hx2
                try clear c3
                try clear c3b0
                try clear c4
                try clear p6
                try clear c7
                try clear c7b0
                try clear c7b1
                try clear c9
                try clear c9b0
                try clear c10
                try clear c10b0
                try clear p11
                try clear q11
                try clear hx11
                try clear c12
                try clear c13
                try clear c13b0
                try clear c13b1
                try clear c14
                try clear c14b0
                try clear c14b1
                try clear c16
                try clear c16b0
                try clear c16b1
                try clear c17
                try clear c17b0
                try clear c17b1
                try clear c19
                try clear c19b0
                try clear c21
                try clear c21b0
                try clear c22
                try clear c22b0
                try clear p23
                try clear q23
                try clear hx23
                try clear c24
                try clear c24b0
                try clear c24b1
                try clear p1
                try clear p11
                try clear p2
                try clear p23
                try clear p6
                try clear q1
                try clear q11
                try clear q23
                obtain ⟨kq, x7_17, rfl, HA, HJ17, HB⟩ := hcut
                cases kq with
                | zero => exact absurd HA.out (by simp [fastjson_parseRawString.j3])
                | succ kj17 =>
                  have H := HA.out
                  clear HA
                  simp only [fastjson_parseRawString.j3] at H
                  by_cases c25 : (Int.tmod (IntKind.u64.wrap (wrap64 (x5_2 - x7_17))) 2) = 0
                  · rw [if_pos c25] at H
                    have c25b0 : ((Int.tmod (IntKind.u64.wrap (wrap64 (x5_2 - x7_17))) 2) == 0) = true := beq_iff_eq.mpr c25
                    have c25b1 : ((Int.tmod (IntKind.u64.wrap (wrap64 (x5_2 - x7_17))) 2) != 0) = false := bne_eq_false_iff_eq.mpr c25
                    clear c25
                    obtain ⟨ji26, hji26⟩ : ∃ j_ : Int, (wrap64 ((wrap64 ((a0.size : Int) - (x0_2.size : Int))) + x5_2)) = j_ := ⟨_, rfl⟩
                    replace H : (if 0 ≤ (ji26) then (if (ji26) ≤ (a0.size : Int) then (if 0 ≤ (wrap64 (x5_2 + 1)) then (if (wrap64 (x5_2 + 1)) ≤ (x0_2.size : Int) then (some (a0.extract 0 ((ji26) : Int).toNat, x0_2.extract ((wrap64 (x5_2 + 1)) : Int).toNat x0_2.size, none)) else (none)) else (none)) else (none)) else (none)) = some (r1, r2, r3) := by first | (rw [hji26] at H; exact H) | (simp only [hji26] at H ⊢; exact H)
                    have hji26w : (IntKind.i64.wrap ((wrap64 ((a0.size : Int) - (x0_2.size : Int))) + x5_2)) = ji26 := (i64_w _).trans hji26
                    by_cases c27 : 0 ≤ (ji26)
                    · rw [if_pos c27] at H
                      have c27b0 := eq_true c27
                      have c27b1 : decide (0 ≤ (ji26)) = true := decide_eq_true c27
                      clear c27
                      by_cases c28 : (ji26) ≤ (a0.size : Int)
                      · rw [if_pos c28] at H
                        have c28b0 := eq_true c28
                        have c28b1 : decide ((ji26) ≤ (a0.size : Int)) = true := decide_eq_true c28
                        clear c28
                        obtain ⟨ji29, hji29⟩ : ∃ j_ : Int, (wrap64 (x5_2 + 1)) = j_ := ⟨_, rfl⟩
                        replace H : (if 0 ≤ (ji29) then (if (ji29) ≤ (x0_2.size : Int) then (some (a0.extract 0 ((ji26) : Int).toNat, x0_2.extract ((ji29) : Int).toNat x0_2.size, none)) else (none)) else (none)) = some (r1, r2, r3) := by first | (rw [hji29] at H; exact H) | (simp only [hji29] at H ⊢; exact H)
                        have hji29w : (IntKind.i64.wrap (x5_2 + 1)) = ji29 := (i64_w _).trans hji29
                        by_cases c30 : 0 ≤ (ji29)
                        · rw [if_pos c30] at H
                          have c30b0 := eq_true c30
                          have c30b1 : decide (0 ≤ (ji29)) = true := decide_eq_true c30
                          clear c30
                          by_cases c31 : (ji29) ≤ (x0_2.size : Int)
                          · rw [if_pos c31] at H
                            have c31b0 := eq_true c31
                            have c31b1 : decide ((ji29) ≤ (x0_2.size : Int)) = true := decide_eq_true c31
                            clear c31
                            simp only [Option.some.injEq, Prod.mk.injEq] at H
                            obtain ⟨rfl, rfl, rfl⟩ := H
                            go_wp2
                            repeat (go_quiet (fail); try go_wp2)
                            go_ret3
                            first | exact ⟨noX, by first | rfl | (simp [errX_none, errX_some] <;> rfl) | (simp only [← hji26, ← hji29]; first | rfl | (simp [errX_none, errX_some] <;> rfl)) | (simp [*, errX_none, errX_some] <;> rfl), by repeat (first | (with_reducible first | exact HB.out | apply below_alloc | apply pw_below_drewN | apply below_drew1) | exact HB.out)⟩ | exact ⟨noX.1, noX.2, by first | rfl | (simp [errX_none, errX_some] <;> rfl) | (simp only [← hji26, ← hji29]; first | rfl | (simp [errX_none, errX_some] <;> rfl)) | (simp [*, errX_none, errX_some] <;> rfl), by repeat (first | (with_reducible first | exact HB.out | apply below_alloc | apply pw_below_drewN | apply below_drew1) | exact HB.out)⟩ | exact ⟨⟨noX, by first | rfl | (simp [errX_none, errX_some] <;> rfl) | (simp only [← hji26, ← hji29]; first | rfl | (simp [errX_none, errX_some] <;> rfl)) | (simp [*, errX_none, errX_some] <;> rfl)⟩, by repeat (first | (with_reducible first | exact HB.out | apply below_alloc | apply pw_below_drewN | apply below_drew1) | exact HB.out)⟩ | exact ⟨⟨noX.1, noX.2, by first | rfl | (simp [errX_none, errX_some] <;> rfl) | (simp only [← hji26, ← hji29]; first | rfl | (simp [errX_none, errX_some] <;> rfl)) | (simp [*, errX_none, errX_some] <;> rfl)⟩, by repeat (first | (with_reducible first | exact HB.out | apply below_alloc | apply pw_below_drewN | apply below_drew1) | exact HB.out)⟩
                          · rw [if_neg c31] at H
                            exact absurd H (by simp)
                        · rw [if_neg c30] at H
                          exact absurd H (by simp)
                      · rw [if_neg c28] at H
                        exact absurd H (by simp)
                    · rw [if_neg c27] at H
                      exact absurd H (by simp)
                  · rw [if_neg c25] at H
                    have c25b0 : ((Int.tmod (IntKind.u64.wrap (wrap64 (x5_2 - x7_17))) 2) == 0) = false := beq_eq_false_iff_ne.mpr c25
                    have c25b1 : ((Int.tmod (IntKind.u64.wrap (wrap64 (x5_2 - x7_17))) 2) != 0) = true := bne_iff_ne.mpr c25
                    obtain ⟨ji32, hji32⟩ : ∃ j_ : Int, (wrap64 (x5_2 + 1)) = j_ := ⟨_, rfl⟩
                    replace H : (if 0 ≤ (ji32) then (if (ji32) ≤ (x0_2.size : Int) then ((strings_IndexByte.f (x0_2.extract ((ji32) : Int).toNat x0_2.size) 34).bind fun t414 => (if t414 < 0 then ((errors_New.f (⟨#[109, 105, 115, 115, 105, 110, 103, 32, 99, 108, 111, 115, 105, 110, 103]⟩ : ByteArray)).bind fun t415 => (some (a0, (⟨#[]⟩ : ByteArray), t415))) else (if t414 = 0 then (if 0 ≤ (wrap64 ((wrap64 ((a0.size : Int) - ((x0_2.extract ((ji32) : Int).toNat x0_2.size).size : Int))) + t414)) then (if (wrap64 ((wrap64 ((a0.size : Int) - ((x0_2.extract ((ji32) : Int).toNat x0_2.size).size : Int))) + t414)) ≤ (a0.size : Int) then (if 0 ≤ (wrap64 (t414 + 1)) then (if (wrap64 (t414 + 1)) ≤ ((x0_2.extract ((ji32) : Int).toNat x0_2.size).size : Int) then (some (a0.extract 0 ((wrap64 ((wrap64 ((a0.size : Int) - ((x0_2.extract ((ji32) : Int).toNat x0_2.size).size : Int))) + t414)) : Int).toNat, (x0_2.extract ((ji32) : Int).toNat x0_2.size).extract ((wrap64 (t414 + 1)) : Int).toNat (x0_2.extract ((ji32) : Int).toNat x0_2.size).size, none)) else (none)) else (none)) else (none)) else (none)) else (if 0 ≤ (wrap64 (t414 - 1)) then (if (wrap64 (t414 - 1)) < ((x0_2.extract ((ji32) : Int).toNat x0_2.size).size : Int) then (if (bt (x0_2.extract ((ji32) : Int).toNat x0_2.size) (wrap64 (t414 - 1))) = 92 then (fastjson_parseRawString.l0 kj17 (x0_2.extract ((ji32) : Int).toNat x0_2.size) t414 a0) else (if 0 ≤ (wrap64 ((wrap64 ((a0.size : Int) - ((x0_2.extract ((ji32) : Int).toNat x0_2.size).size : Int))) + t414)) then (if (wrap64 ((wrap64 ((a0.size : Int) - ((x0_2.extract ((ji32) : Int).toNat x0_2.size).size : Int))) + t414)) ≤ (a0.size : Int) then (if 0 ≤ (wrap64 (t414 + 1)) then (if (wrap64 (t414 + 1)) ≤ ((x0_2.extract ((ji32) : Int).toNat x0_2.size).size : Int) then (some (a0.extract 0 ((wrap64 ((wrap64 ((a0.size : Int) - ((x0_2.extract ((ji32) : Int).toNat x0_2.size).size : Int))) + t414)) : Int).toNat, (x0_2.extract ((ji32) : Int).toNat x0_2.size).extract ((wrap64 (t414 + 1)) : Int).toNat (x0_2.extract ((ji32) : Int).toNat x0_2.size).size, none)) else (none)) else (none)) else (none)) else (none))) else (none)) else (none))))) else (none)) else (none)) = some (r1, r2, r3) := by first | (rw [hji32] at H; exact H) | (simp only [hji32] at H ⊢; exact H)
                    have hji32w : (IntKind.i64.wrap (x5_2 + 1)) = ji32 := (i64_w _).trans hji32
                    by_cases c33 : 0 ≤ (ji32)
                    · rw [if_pos c33] at H
                      have c33b0 := eq_true c33
                      have c33b1 : decide (0 ≤ (ji32)) = true := decide_eq_true c33
                      clear c33
                      by_cases c34 : (ji32) ≤ (x0_2.size : Int)
                      · rw [if_pos c34] at H
                        have c34b0 := eq_true c34
                        have c34b1 : decide ((ji32) ≤ (x0_2.size : Int)) = true := decide_eq_true c34
                        clear c34
                        replace H := Option.bind_eq_some_iff.mp H
                        obtain ⟨t414, A350, H⟩ := H
                        replace H : (if t414 < 0 then ((errors_New.f (⟨#[109, 105, 115, 115, 105, 110, 103, 32, 99, 108, 111, 115, 105, 110, 103]⟩ : ByteArray)).bind fun t415 => (some (a0, (⟨#[]⟩ : ByteArray), t415))) else (if t414 = 0 then (if 0 ≤ (wrap64 ((wrap64 ((a0.size : Int) - ((x0_2.extract ((ji32) : Int).toNat x0_2.size).size : Int))) + t414)) then (if (wrap64 ((wrap64 ((a0.size : Int) - ((x0_2.extract ((ji32) : Int).toNat x0_2.size).size : Int))) + t414)) ≤ (a0.size : Int) then (if 0 ≤ (wrap64 (t414 + 1)) then (if (wrap64 (t414 + 1)) ≤ ((x0_2.extract ((ji32) : Int).toNat x0_2.size).size : Int) then (some (a0.extract 0 ((wrap64 ((wrap64 ((a0.size : Int) - ((x0_2.extract ((ji32) : Int).toNat x0_2.size).size : Int))) + t414)) : Int).toNat, (x0_2.extract ((ji32) : Int).toNat x0_2.size).extract ((wrap64 (t414 + 1)) : Int).toNat (x0_2.extract ((ji32) : Int).toNat x0_2.size).size, none)) else (none)) else (none)) else (none)) else (none)) else (if 0 ≤ (wrap64 (t414 - 1)) then (if (wrap64 (t414 - 1)) < ((x0_2.extract ((ji32) : Int).toNat x0_2.size).size : Int) then (if (bt (x0_2.extract ((ji32) : Int).toNat x0_2.size) (wrap64 (t414 - 1))) = 92 then (fastjson_parseRawString.l0 kj17 (x0_2.extract ((ji32) : Int).toNat x0_2.size) t414 a0) else (if 0 ≤ (wrap64 ((wrap64 ((a0.size : Int) - ((x0_2.extract ((ji32) : Int).toNat x0_2.size).size : Int))) + t414)) then (if (wrap64 ((wrap64 ((a0.size : Int) - ((x0_2.extract ((ji32) : Int).toNat x0_2.size).size : Int))) + t414)) ≤ (a0.size : Int) then (if 0 ≤ (wrap64 (t414 + 1)) then (if (wrap64 (t414 + 1)) ≤ ((x0_2.extract ((ji32) : Int).toNat x0_2.size).size : Int) then (some (a0.extract 0 ((wrap64 ((wrap64 ((a0.size : Int) - ((x0_2.extract ((ji32) : Int).toNat x0_2.size).size : Int))) + t414)) : Int).toNat, (x0_2.extract ((ji32) : Int).toNat x0_2.size).extract ((wrap64 (t414 + 1)) : Int).toNat (x0_2.extract ((ji32) : Int).toNat x0_2.size).size, none)) else (none)) else (none)) else (none)) else (none))) else (none)) else (none)))) = some (r1, r2, r3) := H
                        have A35 := Aside0.mk A350
                        clear A350
                        by_cases c36 : t414 < 0
                        · rw [if_pos c36] at H
                          have c36b0 : decide (t414 < 0) = true := decide_eq_true c36
                          clear c36
                          replace H := Option.bind_eq_some_iff.mp H
                          obtain ⟨t415, A370, H⟩ := H
                          replace H : (some (a0, (⟨#[]⟩ : ByteArray), t415)) = some (r1, r2, r3) := H
                          have A37 := Aside0.mk A370
                          clear A370
                          simp only [Option.some.injEq, Prod.mk.injEq] at H
                          obtain ⟨rfl, rfl, rfl⟩ := H
                          go_wp2_with (first | (go_at_call 69; (with_reducible refine (strings_IndexByte.calls (x0_2.extract ((ji32) : Int).toNat x0_2.size) 34 t414 _ A35.out).mono ?_); rintro e w' ⟨rfl, ⟨nd, rfl⟩⟩; (try first | exact ⟨rfl, _, World.drewN_drewN _ _ _⟩ | exact ⟨rfl, _, Eq.trans (World.drewN_drewN _ _ _) (congrArg (World.drewN _) (Nat.add_assoc _ _ _))⟩)) | (go_at_call 29; (with_reducible refine (errors_New.calls (⟨#[109, 105, 115, 115, 105, 110, 103, 32, 99, 108, 111, 115, 105, 110, 103]⟩ : ByteArray) t415 _ A37.out).mono ?_); rintro e w38 ⟨ex_t415, rfl, hb⟩; have n0_ := Aside0.mk (below_step (by repeat (first | (with_reducible first | exact HB.out | apply below_alloc | apply pw_below_drewN | apply below_drew1) | exact HB.out)) hb); clear HB; have HB := n0_; clear n0_; (try clear hb); (try clear hb2); (try clear hk); (try clear hi); (try simp only [errX_none, errX_some])))
                          repeat (go_quiet (first | (go_at_call 69; (with_reducible refine (strings_IndexByte.calls (x0_2.extract ((ji32) : Int).toNat x0_2.size) 34 t414 _ A35.out).mono ?_); rintro e w' ⟨rfl, ⟨nd, rfl⟩⟩; (try first | exact ⟨rfl, _, World.drewN_drewN _ _ _⟩ | exact ⟨rfl, _, Eq.trans (World.drewN_drewN _ _ _) (congrArg (World.drewN _) (Nat.add_assoc _ _ _))⟩)) | (go_at_call 29; (with_reducible refine (errors_New.calls (⟨#[109, 105, 115, 115, 105, 110, 103, 32, 99, 108, 111, 115, 105, 110, 103]⟩ : ByteArray) t415 _ A37.out).mono ?_); rintro e w38 ⟨ex_t415, rfl, hb⟩; have n0_ := Aside0.mk (below_step (by repeat (first | (with_reducible first | exact HB.out | apply below_alloc | apply pw_below_drewN | apply below_drew1) | exact HB.out)) hb); clear HB; have HB := n0_; clear n0_; (try clear hb); (try clear hb2); (try clear hk); (try clear hi); (try simp only [errX_none, errX_some]))); try go_wp2_with (first | (go_at_call 69; (with_reducible refine (strings_IndexByte.calls (x0_2.extract ((ji32) : Int).toNat x0_2.size) 34 t414 _ A35.out).mono ?_); rintro e w' ⟨rfl, ⟨nd, rfl⟩⟩; (try first | exact ⟨rfl, _, World.drewN_drewN _ _ _⟩ | exact ⟨rfl, _, Eq.trans (World.drewN_drewN _ _ _) (congrArg (World.drewN _) (Nat.add_assoc _ _ _))⟩)) | (go_at_call 29; (with_reducible refine (errors_New.calls (⟨#[109, 105, 115, 115, 105, 110, 103, 32, 99, 108, 111, 115, 105, 110, 103]⟩ : ByteArray) t415 _ A37.out).mono ?_); rintro e w38 ⟨ex_t415, rfl, hb⟩; have n0_ := Aside0.mk (below_step (by repeat (first | (with_reducible first | exact HB.out | apply below_alloc | apply pw_below_drewN | apply below_drew1) | exact HB.out)) hb); clear HB; have HB := n0_; clear n0_; (try clear hb); (try clear hb2); (try clear hk); (try clear hi); (try simp only [errX_none, errX_some]))))
                          go_ret3
                          first | exact ⟨ex_t415, by first | rfl | (simp [errX_none, errX_some] <;> rfl) | (simp only [← hji32]; first | rfl | (simp [errX_none, errX_some] <;> rfl)) | (simp [*, errX_none, errX_some] <;> rfl), by repeat (first | (with_reducible first | exact HB.out | apply below_alloc | apply pw_below_drewN | apply below_drew1) | exact HB.out)⟩ | exact ⟨ex_t415.1, ex_t415.2, by first | rfl | (simp [errX_none, errX_some] <;> rfl) | (simp only [← hji32]; first | rfl | (simp [errX_none, errX_some] <;> rfl)) | (simp [*, errX_none, errX_some] <;> rfl), by repeat (first | (with_reducible first | exact HB.out | apply below_alloc | apply pw_below_drewN | apply below_drew1) | exact HB.out)⟩ | exact ⟨⟨ex_t415, by first | rfl | (simp [errX_none, errX_some] <;> rfl) | (simp only [← hji32]; first | rfl | (simp [errX_none, errX_some] <;> rfl)) | (simp [*, errX_none, errX_some] <;> rfl)⟩, by repeat (first | (with_reducible first | exact HB.out | apply below_alloc | apply pw_below_drewN | apply below_drew1) | exact HB.out)⟩ | exact ⟨⟨ex_t415.1, ex_t415.2, by first | rfl | (simp [errX_none, errX_some] <;> rfl) | (simp only [← hji32]; first | rfl | (simp [errX_none, errX_some] <;> rfl)) | (simp [*, errX_none, errX_some] <;> rfl)⟩, by repeat (first | (with_reducible first | exact HB.out | apply below_alloc | apply pw_below_drewN | apply below_drew1) | exact HB.out)⟩
                        · rw [if_neg c36] at H
                          have c36b0 : decide (t414 < 0) = false := decide_eq_false c36
                          clear c36
                          by_cases c39 : t414 = 0
                          · rw [if_pos c39] at H
                            have c39b0 : (t414 == 0) = true := beq_iff_eq.mpr c39
                            have c39b1 : (t414 != 0) = false := bne_eq_false_iff_eq.mpr c39
                            clear c39
                            obtain ⟨ji40, hji40⟩ : ∃ j_ : Int, (wrap64 ((wrap64 ((a0.size : Int) - ((x0_2.extract ((ji32) : Int).toNat x0_2.size).size : Int))) + t414)) = j_ := ⟨_, rfl⟩
                            replace H : (if 0 ≤ (ji40) then (if (ji40) ≤ (a0.size : Int) then (if 0 ≤ (wrap64 (t414 + 1)) then (if (wrap64 (t414 + 1)) ≤ ((x0_2.extract ((ji32) : Int).toNat x0_2.size).size : Int) then (some (a0.extract 0 ((ji40) : Int).toNat, (x0_2.extract ((ji32) : Int).toNat x0_2.size).extract ((wrap64 (t414 + 1)) : Int).toNat (x0_2.extract ((ji32) : Int).toNat x0_2.size).size, none)) else (none)) else (none)) else (none)) else (none)) = some (r1, r2, r3) := by first | (rw [hji40] at H; exact H) | (simp only [hji40] at H ⊢; exact H)
                            (try rw [hji40] at A35)
                            have hji40w : (IntKind.i64.wrap ((wrap64 ((a0.size : Int) - ((x0_2.extract ((ji32) : Int).toNat x0_2.size).size : Int))) + t414)) = ji40 := (i64_w _).trans hji40
                            have hji40e := hji40w
                            (try simp only [ByteArray.size_extract, Nat.min_self] at hji40e)
                            by_cases c41 : 0 ≤ (ji40)
                            · rw [if_pos c41] at H
                              have c41b0 := eq_true c41
                              have c41b1 : decide (0 ≤ (ji40)) = true := decide_eq_true c41
                              clear c41
                              by_cases c42 : (ji40) ≤ (a0.size : Int)
                              · rw [if_pos c42] at H
                                have c42b0 := eq_true c42
                                have c42b1 : decide ((ji40) ≤ (a0.size : Int)) = true := decide_eq_true c42
                                clear c42
                                obtain ⟨ji43, hji43⟩ : ∃ j_ : Int, (wrap64 (t414 + 1)) = j_ := ⟨_, rfl⟩
                                replace H : (if 0 ≤ (ji43) then (if (ji43) ≤ ((x0_2.extract ((ji32) : Int).toNat x0_2.size).size : Int) then (some (a0.extract 0 ((ji40) : Int).toNat, (x0_2.extract ((ji32) : Int).toNat x0_2.size).extract ((ji43) : Int).toNat (x0_2.extract ((ji32) : Int).toNat x0_2.size).size, none)) else (none)) else (none)) = some (r1, r2, r3) := by first | (rw [hji43] at H; exact H) | (simp only [hji43] at H ⊢; exact H)
                                (try rw [hji43] at A35)
                                have hji43w : (IntKind.i64.wrap (t414 + 1)) = ji43 := (i64_w _).trans hji43
                                by_cases c44 : 0 ≤ (ji43)
                                · rw [if_pos c44] at H
                                  have c44b0 := eq_true c44
                                  have c44b1 : decide (0 ≤ (ji43)) = true := decide_eq_true c44
                                  clear c44
                                  by_cases c45 : (ji43) ≤ ((x0_2.extract ((ji32) : Int).toNat x0_2.size).size : Int)
                                  · rw [if_pos c45] at H
                                    have c45b0 := eq_true c45
                                    have c45e0 := c45b0
                                    (try simp only [ByteArray.size_extract, Nat.min_self] at c45e0)
                                    (first | have c45f0 := of_decide_eq_true c45e0 | have c45f0 := of_decide_eq_false c45e0 | skip)
                                    have c45b1 : decide ((ji43) ≤ ((x0_2.extract ((ji32) : Int).toNat x0_2.size).size : Int)) = true := decide_eq_true c45
                                    have c45e1 := c45b1
                                    (try simp only [ByteArray.size_extract, Nat.min_self] at c45e1)
                                    (first | have c45f1 := of_decide_eq_true c45e1 | have c45f1 := of_decide_eq_false c45e1 | skip)
                                    clear c45
                                    simp only [Option.some.injEq, Prod.mk.injEq] at H
                                    obtain ⟨rfl, rfl, rfl⟩ := H
                                    go_wp2_with (first | (go_at_call 69; (with_reducible refine (strings_IndexByte.calls (x0_2.extract ((ji32) : Int).toNat x0_2.size) 34 t414 _ A35.out).mono ?_); rintro e w' ⟨rfl, ⟨nd, rfl⟩⟩; (try first | exact ⟨rfl, _, World.drewN_drewN _ _ _⟩ | exact ⟨rfl, _, Eq.trans (World.drewN_drewN _ _ _) (congrArg (World.drewN _) (Nat.add_assoc _ _ _))⟩)))
                                    repeat (go_quiet (first | (go_at_call 69; (with_reducible refine (strings_IndexByte.calls (x0_2.extract ((ji32) : Int).toNat x0_2.size) 34 t414 _ A35.out).mono ?_); rintro e w' ⟨rfl, ⟨nd, rfl⟩⟩; (try first | exact ⟨rfl, _, World.drewN_drewN _ _ _⟩ | exact ⟨rfl, _, Eq.trans (World.drewN_drewN _ _ _) (congrArg (World.drewN _) (Nat.add_assoc _ _ _))⟩))); try go_wp2_with (first | (go_at_call 69; (with_reducible refine (strings_IndexByte.calls (x0_2.extract ((ji32) : Int).toNat x0_2.size) 34 t414 _ A35.out).mono ?_); rintro e w' ⟨rfl, ⟨nd, rfl⟩⟩; (try first | exact ⟨rfl, _, World.drewN_drewN _ _ _⟩ | exact ⟨rfl, _, Eq.trans (World.drewN_drewN _ _ _) (congrArg (World.drewN _) (Nat.add_assoc _ _ _))⟩))))
                                    go_ret3
                                    first | exact ⟨noX, by first | rfl | (simp [errX_none, errX_some] <;> rfl) | (simp only [← hji32, ← hji40, ← hji43]; first | rfl | (simp [errX_none, errX_some] <;> rfl)) | (simp [*, errX_none, errX_some] <;> rfl), by repeat (first | (with_reducible first | exact HB.out | apply below_alloc | apply pw_below_drewN | apply below_drew1) | exact HB.out)⟩ | exact ⟨noX.1, noX.2, by first | rfl | (simp [errX_none, errX_some] <;> rfl) | (simp only [← hji32, ← hji40, ← hji43]; first | rfl | (simp [errX_none, errX_some] <;> rfl)) | (simp [*, errX_none, errX_some] <;> rfl), by repeat (first | (with_reducible first | exact HB.out | apply below_alloc | apply pw_below_drewN | apply below_drew1) | exact HB.out)⟩ | exact ⟨⟨noX, by first | rfl | (simp [errX_none, errX_some] <;> rfl) | (simp only [← hji32, ← hji40, ← hji43]; first | rfl | (simp [errX_none, errX_some] <;> rfl)) | (simp [*, errX_none, errX_some] <;> rfl)⟩, by repeat (first | (with_reducible first | exact HB.out | apply below_alloc | apply pw_below_drewN | apply below_drew1) | exact HB.out)⟩ | exact ⟨⟨noX.1, noX.2, by first | rfl | (simp [errX_none, errX_some] <;> rfl) | (simp only [← hji32, ← hji40, ← hji43]; first | rfl | (simp [errX_none, errX_some] <;> rfl)) | (simp [*, errX_none, errX_some] <;> rfl)⟩, by repeat (first | (with_reducible first | exact HB.out | apply below_alloc | apply pw_below_drewN | apply below_drew1) | exact HB.out)⟩
                                  · rw [if_neg c45] at H
                                    exact absurd H (by simp)
                                · rw [if_neg c44] at H
                                  exact absurd H (by simp)
                              · rw [if_neg c42] at H
                                exact absurd H (by simp)
                            · rw [if_neg c41] at H
                              exact absurd H (by simp)
                          · rw [if_neg c39] at H
                            have c39b0 : (t414 == 0) = false := beq_eq_false_iff_ne.mpr c39
                            have c39b1 : (t414 != 0) = true := bne_iff_ne.mpr c39
                            obtain ⟨ji46, hji46⟩ : ∃ j_ : Int, (wrap64 (t414 - 1)) = j_ := ⟨_, rfl⟩
                            replace H : (if 0 ≤ (ji46) then (if (ji46) < ((x0_2.extract ((ji32) : Int).toNat x0_2.size).size : Int) then (if (bt (x0_2.extract ((ji32) : Int).toNat x0_2.size) (ji46)) = 92 then (fastjson_parseRawString.l0 kj17 (x0_2.extract ((ji32) : Int).toNat x0_2.size) t414 a0) else (if 0 ≤ (wrap64 ((wrap64 ((a0.size : Int) - ((x0_2.extract ((ji32) : Int).toNat x0_2.size).size : Int))) + t414)) then (if (wrap64 ((wrap64 ((a0.size : Int) - ((x0_2.extract ((ji32) : Int).toNat x0_2.size).size : Int))) + t414)) ≤ (a0.size : Int) then (if 0 ≤ (wrap64 (t414 + 1)) then (if (wrap64 (t414 + 1)) ≤ ((x0_2.extract ((ji32) : Int).toNat x0_2.size).size : Int) then (some (a0.extract 0 ((wrap64 ((wrap64 ((a0.size : Int) - ((x0_2.extract ((ji32) : Int).toNat x0_2.size).size : Int))) + t414)) : Int).toNat, (x0_2.extract ((ji32) : Int).toNat x0_2.size).extract ((wrap64 (t414 + 1)) : Int).toNat (x0_2.extract ((ji32) : Int).toNat x0_2.size).size, none)) else (none)) else (none)) else (none)) else (none))) else (none)) else (none)) = some (r1, r2, r3) := by first | (rw [hji46] at H; exact H) | (simp only [hji46] at H ⊢; exact H)
                            (try rw [hji46] at A35)
                            have hji46w : (IntKind.i64.wrap (t414 - 1)) = ji46 := (i64_w _).trans hji46
                            by_cases c47 : 0 ≤ (ji46)
                            · rw [if_pos c47] at H
                              have c47b0 : decide (0 ≤ (ji46)) = true := decide_eq_true c47
                              clear c47
                              by_cases c48 : (ji46) < ((x0_2.extract ((ji32) : Int).toNat x0_2.size).size : Int)
                              · rw [if_pos c48] at H
                                have c48b0 : decide ((ji46) < ((x0_2.extract ((ji32) : Int).toNat x0_2.size).size : Int)) = true := decide_eq_true c48
                                have c48e0 := c48b0
                                (try simp only [ByteArray.size_extract, Nat.min_self] at c48e0)
                                (first | have c48f0 := of_decide_eq_true c48e0 | have c48f0 := of_decide_eq_false c48e0 | skip)
                                clear c48
                                by_cases c50 : (bt (x0_2.extract ((ji32) : Int).toNat x0_2.size) (ji46)) = 92
                                · rw [if_pos c50] at H
                                  have c50b0 : ((bt (x0_2.extract ((ji32) : Int).toNat x0_2.size) (ji46)) == 92) = true := beq_iff_eq.mpr c50
                                  have c50b1 : ((bt (x0_2.extract ((ji32) : Int).toNat x0_2.size) (ji46)) != 92) = false := bne_eq_false_iff_eq.mpr c50
                                  clear c50
                                  have H' := Aside0.mk H
                                  clear H
                                  go_wp2_with (first | (go_at_call 69; (with_reducible refine (strings_IndexByte.calls (x0_2.extract ((ji32) : Int).toNat x0_2.size) 34 t414 _ A35.out).mono ?_); rintro e w' ⟨rfl, ⟨nd, rfl⟩⟩; (try first | exact ⟨rfl, _, World.drewN_drewN _ _ _⟩ | exact ⟨rfl, _, Eq.trans (World.drewN_drewN _ _ _) (congrArg (World.drewN _) (Nat.add_assoc _ _ _))⟩); have p49 : 0 ≤ ((ji46) : Int) := of_decide_eq_true (by first | (with_reducible assumption) | assumption); have q49 : (ji46) < ((x0_2.extract ((ji32) : Int).toNat x0_2.size).size : Int) := of_decide_eq_true (by first | (with_reducible assumption) | assumption); have hx49 := bt_at (x0_2.extract ((ji32) : Int).toNat x0_2.size) (ji46); replace p49 := eq_true p49; replace q49 := eq_true q49))
                                  repeat (go_quiet (first | (go_at_call 69; (with_reducible refine (strings_IndexByte.calls (x0_2.extract ((ji32) : Int).toNat x0_2.size) 34 t414 _ A35.out).mono ?_); rintro e w' ⟨rfl, ⟨nd, rfl⟩⟩; (try first | exact ⟨rfl, _, World.drewN_drewN _ _ _⟩ | exact ⟨rfl, _, Eq.trans (World.drewN_drewN _ _ _) (congrArg (World.drewN _) (Nat.add_assoc _ _ _))⟩); have p49 : 0 ≤ ((ji46) : Int) := of_decide_eq_true (by first | (with_reducible assumption) | assumption); have q49 : (ji46) < ((x0_2.extract ((ji32) : Int).toNat x0_2.size).size : Int) := of_decide_eq_true (by first | (with_reducible assumption) | assumption); have hx49 := bt_at (x0_2.extract ((ji32) : Int).toNat x0_2.size) (ji46); replace p49 := eq_true p49; replace q49 := eq_true q49)); try go_wp2_with (first | (go_at_call 69; (with_reducible refine (strings_IndexByte.calls (x0_2.extract ((ji32) : Int).toNat x0_2.size) 34 t414 _ A35.out).mono ?_); rintro e w' ⟨rfl, ⟨nd, rfl⟩⟩; (try first | exact ⟨rfl, _, World.drewN_drewN _ _ _⟩ | exact ⟨rfl, _, Eq.trans (World.drewN_drewN _ _ _) (congrArg (World.drewN _) (Nat.add_assoc _ _ _))⟩); have p49 : 0 ≤ ((ji46) : Int) := of_decide_eq_true (by first | (with_reducible assumption) | assumption); have q49 : (ji46) < ((x0_2.extract ((ji32) : Int).toNat x0_2.size).size : Int) := of_decide_eq_true (by first | (with_reducible assumption) | assumption); have hx49 := bt_at (x0_2.extract ((ji32) : Int).toNat x0_2.size) (ji46); replace p49 := eq_true p49; replace q49 := eq_true q49)))
                                  go_roundg kj17
                                  case measure => have := HJ5.out; have := HK2.out; have := HJ17.out; omega
                                  case rel => exact ⟨(x0_2.extract ((ji32) : Int).toNat x0_2.size), (t414), (by first | rfl | (simp; done) | (simp only [← hji32] <;> (first | rfl | (simp; done))) | (simp [*]; done) | (simp only [*]; done)), (by first | rfl | (simp; done) | (simp [*]; done)), H', ⟨by have := HJ5.out; have := HK2.out; have := HJ17.out; omega⟩, ⟨by repeat (first | (with_reducible first | exact HB.out | apply below_alloc | apply pw_below_drewN | apply below_drew1) | exact HB.out)⟩⟩
                                · rw [if_neg c50] at H
                                  have c50b0 : ((bt (x0_2.extract ((ji32) : Int).toNat x0_2.size) (ji46)) == 92) = false := beq_eq_false_iff_ne.mpr c50
                                  have c50b1 : ((bt (x0_2.extract ((ji32) : Int).toNat x0_2.size) (ji46)) != 92) = true := bne_iff_ne.mpr c50
                                  obtain ⟨ji51, hji51⟩ : ∃ j_ : Int, (wrap64 ((wrap64 ((a0.size : Int) - ((x0_2.extract ((ji32) : Int).toNat x0_2.size).size : Int))) + t414)) = j_ := ⟨_, rfl⟩
                                  replace H : (if 0 ≤ (ji51) then (if (ji51) ≤ (a0.size : Int) then (if 0 ≤ (wrap64 (t414 + 1)) then (if (wrap64 (t414 + 1)) ≤ ((x0_2.extract ((ji32) : Int).toNat x0_2.size).size : Int) then (some (a0.extract 0 ((ji51) : Int).toNat, (x0_2.extract ((ji32) : Int).toNat x0_2.size).extract ((wrap64 (t414 + 1)) : Int).toNat (x0_2.extract ((ji32) : Int).toNat x0_2.size).size, none)) else (none)) else (none)) else (none)) else (none)) = some (r1, r2, r3) := by first | (rw [hji51] at H; exact H) | (simp only [hji51] at H ⊢; exact H)
                                  (try rw [hji51] at A35)
                                  have hji51w : (IntKind.i64.wrap ((wrap64 ((a0.size : Int) - ((x0_2.extract ((ji32) : Int).toNat x0_2.size).size : Int))) + t414)) = ji51 := (i64_w _).trans hji51
                                  have hji51e := hji51w
                                  (try simp only [ByteArray.size_extract, Nat.min_self] at hji51e)
                                  by_cases c52 : 0 ≤ (ji51)
                                  · rw [if_pos c52] at H
                                    have c52b0 := eq_true c52
                                    have c52b1 : decide (0 ≤ (ji51)) = true := decide_eq_true c52
                                    clear c52
                                    by_cases c53 : (ji51) ≤ (a0.size : Int)
                                    · rw [if_pos c53] at H
                                      have c53b0 := eq_true c53
                                      have c53b1 : decide ((ji51) ≤ (a0.size : Int)) = true := decide_eq_true c53
                                      clear c53
                                      obtain ⟨ji54, hji54⟩ : ∃ j_ : Int, (wrap64 (t414 + 1)) = j_ := ⟨_, rfl⟩
                                      replace H : (if 0 ≤ (ji54) then (if (ji54) ≤ ((x0_2.extract ((ji32) : Int).toNat x0_2.size).size : Int) then (some (a0.extract 0 ((ji51) : Int).toNat, (x0_2.extract ((ji32) : Int).toNat x0_2.size).extract ((ji54) : Int).toNat (x0_2.extract ((ji32) : Int).toNat x0_2.size).size, none)) else (none)) else (none)) = some (r1, r2, r3) := by first | (rw [hji54] at H; exact H) | (simp only [hji54] at H ⊢; exact H)
                                      (try rw [hji54] at A35)
                                      have hji54w : (IntKind.i64.wrap (t414 + 1)) = ji54 := (i64_w _).trans hji54
                                      by_cases c55 : 0 ≤ (ji54)
                                      · rw [if_pos c55] at H
                                        have c55b0 := eq_true c55
                                        have c55b1 : decide (0 ≤ (ji54)) = true := decide_eq_true c55
                                        clear c55
                                        by_cases c56 : (ji54) ≤ ((x0_2.extract ((ji32) : Int).toNat x0_2.size).size : Int)
                                        · rw [if_pos c56] at H
                                          have c56b0 := eq_true c56
                                          have c56e0 := c56b0
                                          (try simp only [ByteArray.size_extract, Nat.min_self] at c56e0)
                                          (first | have c56f0 := of_decide_eq_true c56e0 | have c56f0 := of_decide_eq_false c56e0 | skip)
                                          have c56b1 : decide ((ji54) ≤ ((x0_2.extract ((ji32) : Int).toNat x0_2.size).size : Int)) = true := decide_eq_true c56
                                          have c56e1 := c56b1
                                          (try simp only [ByteArray.size_extract, Nat.min_self] at c56e1)
                                          (first | have c56f1 := of_decide_eq_true c56e1 | have c56f1 := of_decide_eq_false c56e1 | skip)
                                          clear c56
                                          simp only [Option.some.injEq, Prod.mk.injEq] at H
                                          obtain ⟨rfl, rfl, rfl⟩ := H
                                          go_wp2_with (first | (go_at_call 69; (with_reducible refine (strings_IndexByte.calls (x0_2.extract ((ji32) : Int).toNat x0_2.size) 34 t414 _ A35.out).mono ?_); rintro e w' ⟨rfl, ⟨nd, rfl⟩⟩; (try first | exact ⟨rfl, _, World.drewN_drewN _ _ _⟩ | exact ⟨rfl, _, Eq.trans (World.drewN_drewN _ _ _) (congrArg (World.drewN _) (Nat.add_assoc _ _ _))⟩); have p49 : 0 ≤ ((ji46) : Int) := of_decide_eq_true (by first | (with_reducible assumption) | assumption); have q49 : (ji46) < ((x0_2.extract ((ji32) : Int).toNat x0_2.size).size : Int) := of_decide_eq_true (by first | (with_reducible assumption) | assumption); have hx49 := bt_at (x0_2.extract ((ji32) : Int).toNat x0_2.size) (ji46); replace p49 := eq_true p49; replace q49 := eq_true q49))
                                          repeat (go_quiet (first | (go_at_call 69; (with_reducible refine (strings_IndexByte.calls (x0_2.extract ((ji32) : Int).toNat x0_2.size) 34 t414 _ A35.out).mono ?_); rintro e w' ⟨rfl, ⟨nd, rfl⟩⟩; (try first | exact ⟨rfl, _, World.drewN_drewN _ _ _⟩ | exact ⟨rfl, _, Eq.trans (World.drewN_drewN _ _ _) (congrArg (World.drewN _) (Nat.add_assoc _ _ _))⟩); have p49 : 0 ≤ ((ji46) : Int) := of_decide_eq_true (by first | (with_reducible assumption) | assumption); have q49 : (ji46) < ((x0_2.extract ((ji32) : Int).toNat x0_2.size).size : Int) := of_decide_eq_true (by first | (with_reducible assumption) | assumption); have hx49 := bt_at (x0_2.extract ((ji32) : Int).toNat x0_2.size) (ji46); replace p49 := eq_true p49; replace q49 := eq_true q49)); try go_wp2_with (first | (go_at_call 69; (with_reducible refine (strings_IndexByte.calls (x0_2.extract ((ji32) : Int).toNat x0_2.size) 34 t414 _ A35.out).mono ?_); rintro e w' ⟨rfl, ⟨nd, rfl⟩⟩; (try first | exact ⟨rfl, _, World.drewN_drewN _ _ _⟩ | exact ⟨rfl, _, Eq.trans (World.drewN_drewN _ _ _) (congrArg (World.drewN _) (Nat.add_assoc _ _ _))⟩); have p49 : 0 ≤ ((ji46) : Int) := of_decide_eq_true (by first | (with_reducible assumption) | assumption); have q49 : (ji46) < ((x0_2.extract ((ji32) : Int).toNat x0_2.size).size : Int) := of_decide_eq_true (by first | (with_reducible assumption) | assumption); have hx49 := bt_at (x0_2.extract ((ji32) : Int).toNat x0_2.size) (ji46); replace p49 := eq_true p49; replace q49 := eq_true q49)))
                                          go_ret3
                                          first | exact ⟨noX, by first | rfl | (simp [errX_none, errX_some] <;> rfl) | (simp only [← hji32, ← hji46, ← hji51, ← hji54]; first | rfl | (simp [errX_none, errX_some] <;> rfl)) | (simp [*, errX_none, errX_some] <;> rfl), by repeat (first | (with_reducible first | exact HB.out | apply below_alloc | apply pw_below_drewN | apply below_drew1) | exact HB.out)⟩ | exact ⟨noX.1, noX.2, by first | rfl | (simp [errX_none, errX_some] <;> rfl) | (simp only [← hji32, ← hji46, ← hji51, ← hji54]; first | rfl | (simp [errX_none, errX_some] <;> rfl)) | (simp [*, errX_none, errX_some] <;> rfl), by repeat (first | (with_reducible first | exact HB.out | apply below_alloc | apply pw_below_drewN | apply below_drew1) | exact HB.out)⟩ | exact ⟨⟨noX, by first | rfl | (simp [errX_none, errX_some] <;> rfl) | (simp only [← hji32, ← hji46, ← hji51, ← hji54]; first | rfl | (simp [errX_none, errX_some] <;> rfl)) | (simp [*, errX_none, errX_some] <;> rfl)⟩, by repeat (first | (with_reducible first | exact HB.out | apply below_alloc | apply pw_below_drewN | apply below_drew1) | exact HB.out)⟩ | exact ⟨⟨noX.1, noX.2, by first | rfl | (simp [errX_none, errX_some] <;> rfl) | (simp only [← hji32, ← hji46, ← hji51, ← hji54]; first | rfl | (simp [errX_none, errX_some] <;> rfl)) | (simp [*, errX_none, errX_some] <;> rfl)⟩, by repeat (first | (with_reducible first | exact HB.out | apply below_alloc | apply pw_below_drewN | apply below_drew1) | exact HB.out)⟩
                                        · rw [if_neg c56] at H
                                          exact absurd H (by simp)
                                      · rw [if_neg c55] at H
                                        exact absurd H (by simp)
                                    · rw [if_neg c53] at H
                                      exact absurd H (by simp)
                                  · rw [if_neg c52] at H
                                    exact absurd H (by simp)
                              · rw [if_neg c48] at H
                                exact absurd H (by simp)
                            · rw [if_neg c47] at H
                              exact absurd H (by simp)
                      · rw [if_neg c34] at H
                        exact absurd H (by simp)
                    · rw [if_neg c33] at H
                      exact absurd H (by simp)


/-! ### fastjson_parseRawKey: function 68 -/
def fastjson_parseRawKey.l0 : Nat → ByteArray → Int → Int → Option (ByteArray × ByteArray × Option Int)
  | 0, _, _, _ => none
  | k + 1, x0, x7, x8 => if x8 < x7 then (if 0 ≤ x8 then (if x8 < (x0.size : Int) then (if (bt x0 x8) = 34 then (if x8 ≤ (x0.size : Int) then (if 0 ≤ (wrap64 (x8 + 1)) then (if (wrap64 (x8 + 1)) ≤ (x0.size : Int) then (some (x0.extract 0 (x8 : Int).toNat, x0.extract ((wrap64 (x8 + 1)) : Int).toNat x0.size, none)) else (none)) else (none)) else (none)) else (if (bt x0 x8) = 92 then ((fastjson_parseRawString.f k x0).bind fun bt417 => (some (bt417.1, bt417.2.1, bt417.2.2))) else (fastjson_parseRawKey.l0 k x0 x7 (wrap64 (x8 + 1))))) else (none)) else (none)) else ((errors_New.f (⟨#[109, 105, 115, 115, 105, 110, 103, 32, 99, 108, 111, 115, 105, 110, 103]⟩ : ByteArray)).bind fun t416 => (some (x0, (⟨#[]⟩ : ByteArray), t416)))
def fastjson_parseRawKey.f (k : Nat) (a0 : ByteArray) : Option (ByteArray × ByteArray × Option Int) := fastjson_parseRawKey.l0 k a0 (a0.size : Int) 0
theorem fastjson_parseRawKey.mono_l : ∀ k, (∀ y0 y1 y2, LeO (fastjson_parseRawKey.l0 k y0 y1 y2) (fastjson_parseRawKey.l0 (k + 1) y0 y1 y2))
  | 0 => fun _ _ _ r h => by simp [fastjson_parseRawKey.l0] at h
  | k + 1 => by
    have ih0 := fastjson_parseRawKey.mono_l k
    · intro y0 y1 y2
      unfold fastjson_parseRawKey.l0
      repeat' first
      | (with_reducible exact ih0 _ _ _)
      | (with_reducible exact fastjson_parseRawString.mono _ _)
      | (with_reducible exact LeO.refl _)
      | (with_reducible exact LeO.none _)
      | (with_reducible refine LeO.ite ?_ ?_)
      | (with_reducible refine LeO.bind ?_ (fun _ => ?_))
      | exact ih0 _ _ _
      | exact fastjson_parseRawString.mono _ _
      | exact LeO.none _
      | refine LeO.ite ?_ ?_
      | refine LeO.bind ?_ (fun _ => ?_)
theorem fastjson_parseRawKey.mono : ∀ a0 k, LeO (fastjson_parseRawKey.f k a0) (fastjson_parseRawKey.f (k + 1) a0) := by
  intro a0 k
  have ih0 := fastjson_parseRawKey.mono_l k
  unfold fastjson_parseRawKey.f
  repeat' first
      | (with_reducible exact ih0 _ _ _)
      | (with_reducible exact fastjson_parseRawString.mono _ _)
      | (with_reducible exact LeO.refl _)
      | (with_reducible exact LeO.none _)
      | (with_reducible refine LeO.ite ?_ ?_)
      | (with_reducible refine LeO.bind ?_ (fun _ => ?_))
      | exact ih0 _ _ _
      | exact fastjson_parseRawString.mono _ _
      | exact LeO.none _
      | refine LeO.ite ?_ ?_
      | refine LeO.bind ?_ (fun _ => ?_)
set_option maxHeartbeats 8000000 in
set_option maxRecDepth 100000 in
theorem fastjson_parseRawKey.calls (k : Nat) (a0 : ByteArray) (r1 : ByteArray) (r2 : ByteArray) (r3 : Option Int) (w : World) (h : fastjson_parseRawKey.f k a0 = some (r1, r2, r3)) :
    Calls Tryd.prog 68 #[.string a0] w fun e w' => ∃ x2_ : TypeId × Value, e = .returned (.tuple #[.string r1, .string r2, errX x2_ r3]) ∧ Below w.heap.size w w' := by
  have HB := Aside0.mk (Below.refl w.heap.size w)
  have H : (fastjson_parseRawKey.l0 k a0 (a0.size : Int) 0) = some (r1, r2, r3) := h
  clear h
  have H' := Aside0.mk H
  clear H
  go_enter Tryd.func68, Tryd.ntmps68
  go_wp2
  repeat (go_quiet (fail); try go_wp2)
  (try simp only [Act.put, List.setIfInBounds_toArray, List.set_cons_zero, List.set_cons_succ])
  go_loopg [8] k (fun kq v8 w' => ∃ (x8_1 : Int), v8 = .int .i64 x8_1 ∧ Aside0 (fastjson_parseRawKey.l0 kq a0 (a0.size : Int) x8_1 = some (r1, r2, r3)) ∧ Aside0 (kq ≤ k) ∧ Aside0 (Below w.heap.size w w'))
  case atStart => exact ⟨(0), (by first | rfl | (simp; done) | (simp [*]; done)), H', ⟨Nat.le_refl _⟩, ⟨by repeat (first | (with_reducible first | exact HB.out | apply below_alloc | apply pw_below_drewN | apply below_drew1) | exact HB.out)⟩⟩
  case round =>
    clear H'
    obtain ⟨x8_1, rfl, HA, HK1, HB⟩ := hrel
    cases gk with
    | zero => exact absurd HA.out (by simp [fastjson_parseRawKey.l0])
    | succ k1 =>
      have H := HA.out
      clear HA
      simp only [fastjson_parseRawKey.l0] at H
      by_cases c2 : x8_1 < (a0.size : Int)
      · rw [if_pos c2] at H
        have c2b0 : decide (x8_1 < (a0.size : Int)) = true := decide_eq_true c2
        clear c2
        by_cases c3 : 0 ≤ x8_1
        · rw [if_pos c3] at H
          have c3b0 : decide (0 ≤ x8_1) = true := decide_eq_true c3
          clear c3
          by_cases c4 : x8_1 < (a0.size : Int)
          · rw [if_pos c4] at H
            have c4b0 : decide (x8_1 < (a0.size : Int)) = true := decide_eq_true c4
            clear c4
            by_cases c6 : (bt a0 x8_1) = 34
            · rw [if_pos c6] at H
              have c6b0 : ((bt a0 x8_1) == 34) = true := beq_iff_eq.mpr c6
              have c6b1 : ((bt a0 x8_1) != 34) = false := bne_eq_false_iff_eq.mpr c6
              clear c6
              have c7b0 := eq_true (of_decide_eq_true (by first | (with_reducible assumption) | assumption) : 0 ≤ x8_1)
              by_cases c8 : x8_1 ≤ (a0.size : Int)
              · rw [if_pos c8] at H
                have c8b0 := eq_true c8
                have c8b1 : decide (x8_1 ≤ (a0.size : Int)) = true := decide_eq_true c8
                clear c8
                obtain ⟨ji9, hji9⟩ : ∃ j_ : Int, (wrap64 (x8_1 + 1)) = j_ := ⟨_, rfl⟩
                replace H : (if 0 ≤ (ji9) then (if (ji9) ≤ (a0.size : Int) then (some (a0.extract 0 (x8_1 : Int).toNat, a0.extract ((ji9) : Int).toNat a0.size, none)) else (none)) else (none)) = some (r1, r2, r3) := by first | (rw [hji9] at H; exact H) | (simp only [hji9] at H ⊢; exact H)
                have hji9w : (IntKind.i64.wrap (x8_1 + 1)) = ji9 := (i64_w _).trans hji9
                by_cases c10 : 0 ≤ (ji9)
                · rw [if_pos c10] at H
                  have c10b0 := eq_true c10
                  have c10b1 : decide (0 ≤ (ji9)) = true := decide_eq_true c10
                  clear c10
                  by_cases c11 : (ji9) ≤ (a0.size : Int)
                  · rw [if_pos c11] at H
                    have c11b0 := eq_true c11
                    have c11b1 : decide ((ji9) ≤ (a0.size : Int)) = true := decide_eq_true c11
                    clear c11
                    simp only [Option.some.injEq, Prod.mk.injEq] at H
                    obtain ⟨rfl, rfl, rfl⟩ := H
                    have p5 : 0 ≤ (x8_1 : Int) := of_decide_eq_true (by first | (with_reducible assumption) | assumption)
                    have q5 : x8_1 < (a0.size : Int) := of_decide_eq_true (by first | (with_reducible assumption) | assumption)
                    have hx5 := bt_at a0 x8_1
                    replace p5 := eq_true p5
                    replace q5 := eq_true q5
                    go_wp2
                    repeat (go_quiet (fail); try go_wp2)
                    go_ret3
                    first | exact ⟨noX, by first | rfl | (simp [errX_none, errX_some] <;> rfl) | (simp only [← hji9]; first | rfl | (simp [errX_none, errX_some] <;> rfl)) | (simp [*, errX_none, errX_some] <;> rfl), by repeat (first | (with_reducible first | exact HB.out | apply below_alloc | apply pw_below_drewN | apply below_drew1) | exact HB.out)⟩ | exact ⟨noX.1, noX.2, by first | rfl | (simp [errX_none, errX_some] <;> rfl) | (simp only [← hji9]; first | rfl | (simp [errX_none, errX_some] <;> rfl)) | (simp [*, errX_none, errX_some] <;> rfl), by repeat (first | (with_reducible first | exact HB.out | apply below_alloc | apply pw_below_drewN | apply below_drew1) | exact HB.out)⟩ | exact ⟨⟨noX, by first | rfl | (simp [errX_none, errX_some] <;> rfl) | (simp only [← hji9]; first | rfl | (simp [errX_none, errX_some] <;> rfl)) | (simp [*, errX_none, errX_some] <;> rfl)⟩, by repeat (first | (with_reducible first | exact HB.out | apply below_alloc | apply pw_below_drewN | apply below_drew1) | exact HB.out)⟩ | exact ⟨⟨noX.1, noX.2, by first | rfl | (simp [errX_none, errX_some] <;> rfl) | (simp only [← hji9]; first | rfl | (simp [errX_none, errX_some] <;> rfl)) | (simp [*, errX_none, errX_some] <;> rfl)⟩, by repeat (first | (with_reducible first | exact HB.out | apply below_alloc | apply pw_below_drewN | apply below_drew1) | exact HB.out)⟩
                  · rw [if_neg c11] at H
                    exact absurd H (by simp)
                · rw [if_neg c10] at H
                  exact absurd H (by simp)
              · rw [if_neg c8] at H
                exact absurd H (by simp)
            · rw [if_neg c6] at H
              have c6b0 : ((bt a0 x8_1) == 34) = false := beq_eq_false_iff_ne.mpr c6
              have c6b1 : ((bt a0 x8_1) != 34) = true := bne_iff_ne.mpr c6
              by_cases c13 : (bt a0 x8_1) = 92
              · rw [if_pos c13] at H
                have c13b0 : ((bt a0 x8_1) == 92) = true := beq_iff_eq.mpr c13
                have c13b1 : ((bt a0 x8_1) != 92) = false := bne_eq_false_iff_eq.mpr c13
                clear c13
                replace H := Option.bind_eq_some_iff.mp H
                obtain ⟨⟨t417, t418, t419⟩, A140, H⟩ := H
                replace H : (some (t417, t418, t419)) = some (r1, r2, r3) := H
                have A14 := Aside0.mk A140
                clear A140
                simp only [Option.some.injEq, Prod.mk.injEq] at H
                obtain ⟨rfl, rfl, rfl⟩ := H
                have p5 : 0 ≤ (x8_1 : Int) := of_decide_eq_true (by first | (with_reducible assumption) | assumption)
                have q5 : x8_1 < (a0.size : Int) := of_decide_eq_true (by first | (with_reducible assumption) | assumption)
                have hx5 := bt_at a0 x8_1
                replace p5 := eq_true p5
                replace q5 := eq_true q5
                have p12 : 0 ≤ (x8_1 : Int) := of_decide_eq_true (by first | (with_reducible assumption) | assumption)
                have q12 : x8_1 < (a0.size : Int) := of_decide_eq_true (by first | (with_reducible assumption) | assumption)
                have hx12 := bt_at a0 x8_1
                replace p12 := eq_true p12
                replace q12 := eq_true q12
                go_wp2_with (first | (go_at_call 46; (with_reducible refine (fastjson_parseRawString.calls k1 a0 t417 t418 t419 _ A14.out).mono ?_); rintro e w15 ⟨ex_t419, rfl, hb⟩; have n0_ := Aside0.mk (below_step (by repeat (first | (with_reducible first | exact HB.out | apply below_alloc | apply pw_below_drewN | apply below_drew1) | exact HB.out)) hb); clear HB; have HB := n0_; clear n0_; (try clear hb); (try clear hb2); (try clear hk); (try clear hi); (try simp only [errX_none, errX_some])))
                repeat (go_quiet (first | (go_at_call 46; (with_reducible refine (fastjson_parseRawString.calls k1 a0 t417 t418 t419 _ A14.out).mono ?_); rintro e w15 ⟨ex_t419, rfl, hb⟩; have n0_ := Aside0.mk (below_step (by repeat (first | (with_reducible first | exact HB.out | apply below_alloc | apply pw_below_drewN | apply below_drew1) | exact HB.out)) hb); clear HB; have HB := n0_; clear n0_; (try clear hb); (try clear hb2); (try clear hk); (try clear hi); (try simp only [errX_none, errX_some]))); try go_wp2_with (first | (go_at_call 46; (with_reducible refine (fastjson_parseRawString.calls k1 a0 t417 t418 t419 _ A14.out).mono ?_); rintro e w15 ⟨ex_t419, rfl, hb⟩; have n0_ := Aside0.mk (below_step (by repeat (first | (with_reducible first | exact HB.out | apply below_alloc | apply pw_below_drewN | apply below_drew1) | exact HB.out)) hb); clear HB; have HB := n0_; clear n0_; (try clear hb); (try clear hb2); (try clear hk); (try clear hi); (try simp only [errX_none, errX_some]))))
                go_ret3
                first | exact ⟨ex_t419, by first | rfl | (simp [errX_none, errX_some] <;> rfl) | (simp [*, errX_none, errX_some] <;> rfl), by repeat (first | (with_reducible first | exact HB.out | apply below_alloc | apply pw_below_drewN | apply below_drew1) | exact HB.out)⟩ | exact ⟨ex_t419.1, ex_t419.2, by first | rfl | (simp [errX_none, errX_some] <;> rfl) | (simp [*, errX_none, errX_some] <;> rfl), by repeat (first | (with_reducible first | exact HB.out | apply below_alloc | apply pw_below_drewN | apply below_drew1) | exact HB.out)⟩ | exact ⟨⟨ex_t419, by first | rfl | (simp [errX_none, errX_some] <;> rfl) | (simp [*, errX_none, errX_some] <;> rfl)⟩, by repeat (first | (with_reducible first | exact HB.out | apply below_alloc | apply pw_below_drewN | apply below_drew1) | exact HB.out)⟩ | exact ⟨⟨ex_t419.1, ex_t419.2, by first | rfl | (simp [errX_none, errX_some] <;> rfl) | (simp [*, errX_none, errX_some] <;> rfl)⟩, by repeat (first | (with_reducible first | exact HB.out | apply below_alloc | apply pw_below_drewN | apply below_drew1) | exact HB.out)⟩
              · rw [if_neg c13] at H
                have c13b0 : ((bt a0 x8_1) == 92) = false := beq_eq_false_iff_ne.mpr c13
                have c13b1 : ((bt a0 x8_1) != 92) = true := bne_iff_ne.mpr c13
                have H' := Aside0.mk H
                clear H
                have p5 : 0 ≤ (x8_1 : Int) := of_decide_eq_true (by first | (with_reducible assumption) | assumption)
                have q5 : x8_1 < (a0.size : Int) := of_decide_eq_true (by first | (with_reducible assumption) | assumption)
                have hx5 := bt_at a0 x8_1
                replace p5 := eq_true p5
                replace q5 := eq_true q5
                have p12 : 0 ≤ (x8_1 : Int) := of_decide_eq_true (by first | (with_reducible assumption) | assumption)
                have q12 : x8_1 < (a0.size : Int) := of_decide_eq_true (by first | (with_reducible assumption) | assumption)
                have hx12 := bt_at a0 x8_1
                replace p12 := eq_true p12
                replace q12 := eq_true q12
                go_wp2
                repeat (go_quiet (fail); try go_wp2)
                go_roundg k1
                case measure => have := HK1.out; omega
                case rel => exact ⟨(wrap64 (x8_1 + 1)), (by first | rfl | (simp; done) | (simp [*]; done)), H', ⟨by have := HK1.out; omega⟩, ⟨by repeat (first | (with_reducible first | exact HB.out | apply below_alloc | apply pw_below_drewN | apply below_drew1) | exact HB.out)⟩⟩
          · rw [if_neg c4] at H
            exact absurd H (by simp)
        · rw [if_neg c3] at H
          exact absurd H (by simp)
      · rw [if_neg c2] at H
        have c2b0 : decide (x8_1 < (a0.size : Int)) = false := decide_eq_false c2
        clear c2
        replace H := Option.bind_eq_some_iff.mp H
        obtain ⟨t416, A160, H⟩ := H
        replace H : (some (a0, (⟨#[]⟩ : ByteArray), t416)) = some (r1, r2, r3) := H
        have A16 := Aside0.mk A160
        clear A160
        simp only [Option.some.injEq, Prod.mk.injEq] at H
        obtain ⟨rfl, rfl, rfl⟩ := H
        go_wp2_with (first | (go_at_call 29; (with_reducible refine (errors_New.calls (⟨#[109, 105, 115, 115, 105, 110, 103, 32, 99, 108, 111, 115, 105, 110, 103]⟩ : ByteArray) t416 _ A16.out).mono ?_); rintro e w17 ⟨ex_t416, rfl, hb⟩; have n0_ := Aside0.mk (below_step (by repeat (first | (with_reducible first | exact HB.out | apply below_alloc | apply pw_below_drewN | apply below_drew1) | exact HB.out)) hb); clear HB; have HB := n0_; clear n0_; (try clear hb); (try clear hb2); (try clear hk); (try clear hi); (try simp only [errX_none, errX_some])))
        repeat (go_quiet (first | (go_at_call 29; (with_reducible refine (errors_New.calls (⟨#[109, 105, 115, 115, 105, 110, 103, 32, 99, 108, 111, 115, 105, 110, 103]⟩ : ByteArray) t416 _ A16.out).mono ?_); rintro e w17 ⟨ex_t416, rfl, hb⟩; have n0_ := Aside0.mk (below_step (by repeat (first | (with_reducible first | exact HB.out | apply below_alloc | apply pw_below_drewN | apply below_drew1) | exact HB.out)) hb); clear HB; have HB := n0_; clear n0_; (try clear hb); (try clear hb2); (try clear hk); (try clear hi); (try simp only [errX_none, errX_some]))); try go_wp2_with (first | (go_at_call 29; (with_reducible refine (errors_New.calls (⟨#[109, 105, 115, 115, 105, 110, 103, 32, 99, 108, 111, 115, 105, 110, 103]⟩ : ByteArray) t416 _ A16.out).mono ?_); rintro e w17 ⟨ex_t416, rfl, hb⟩; have n0_ := Aside0.mk (below_step (by repeat (first | (with_reducible first | exact HB.out | apply below_alloc | apply pw_below_drewN | apply below_drew1) | exact HB.out)) hb); clear HB; have HB := n0_; clear n0_; (try clear hb); (try clear hb2); (try clear hk); (try clear hi); (try simp only [errX_none, errX_some]))))
        go_ret3
        first | exact ⟨ex_t416, by first | rfl | (simp [errX_none, errX_some] <;> rfl) | (simp [*, errX_none, errX_some] <;> rfl), by repeat (first | (with_reducible first | exact HB.out | apply below_alloc | apply pw_below_drewN | apply below_drew1) | exact HB.out)⟩ | exact ⟨ex_t416.1, ex_t416.2, by first | rfl | (simp [errX_none, errX_some] <;> rfl) | (simp [*, errX_none, errX_some] <;> rfl), by repeat (first | (with_reducible first | exact HB.out | apply below_alloc | apply pw_below_drewN | apply below_drew1) | exact HB.out)⟩ | exact ⟨⟨ex_t416, by first | rfl | (simp [errX_none, errX_some] <;> rfl) | (simp [*, errX_none, errX_some] <;> rfl)⟩, by repeat (first | (with_reducible first | exact HB.out | apply below_alloc | apply pw_below_drewN | apply below_drew1) | exact HB.out)⟩ | exact ⟨⟨ex_t416.1, ex_t416.2, by first | rfl | (simp [errX_none, errX_some] <;> rfl) | (simp [*, errX_none, errX_some] <;> rfl)⟩, by repeat (first | (with_reducible first | exact HB.out | apply below_alloc | apply pw_below_drewN | apply below_drew1) | exact HB.out)⟩


/-! ### fastjson_zzFold: function 48 -/
mutual
def fastjson_zzFold.l0 : Nat → ByteArray → ByteArray → Int → Option (Bool)
  | 0, _, _, _ => none
  | k + 1, x0, x1, x5 => if x5 < (x0.size : Int) then (if 0 ≤ x5 then (if 65 ≤ (bt x0 x5) then (fastjson_zzFold.j1 k x0 x1 x5 (bt x0 x5) (decide ((bt x0 x5) ≤ 90))) else (fastjson_zzFold.j1 k x0 x1 x5 (bt x0 x5) false)) else (none)) else (some true)
def fastjson_zzFold.j1 : Nat → ByteArray → ByteArray → Int → Int → Bool → Option (Bool)
  | 0, _, _, _, _, _ => none
  | k + 1, x0, x1, x5, x6, x26 => if x26 = true then (if 0 ≤ x5 then (if x5 < (x1.size : Int) then (if ((x6 + 32) % 256) = (bt x1 x5) then (fastjson_zzFold.l0 k x0 x1 (wrap64 (x5 + 1))) else (some false)) else (none)) else (none)) else (if 0 ≤ x5 then (if x5 < (x1.size : Int) then (if x6 = (bt x1 x5) then (fastjson_zzFold.l0 k x0 x1 (wrap64 (x5 + 1))) else (some false)) else (none)) else (none))
end
def fastjson_zzFold.f (k : Nat) (a0 : ByteArray) (a1 : ByteArray) : Option (Bool) := if (a0.size : Int) = (a1.size : Int) then (fastjson_zzFold.l0 k a0 a1 0) else (some false)
theorem fastjson_zzFold.mono_l : ∀ k, (∀ y0 y1 y2, LeO (fastjson_zzFold.l0 k y0 y1 y2) (fastjson_zzFold.l0 (k + 1) y0 y1 y2)) ∧ (∀ y0 y1 y2 y3 y4, LeO (fastjson_zzFold.j1 k y0 y1 y2 y3 y4) (fastjson_zzFold.j1 (k + 1) y0 y1 y2 y3 y4))
  | 0 => ⟨fun _ _ _ r h => by simp [fastjson_zzFold.l0] at h, fun _ _ _ _ _ r h => by simp [fastjson_zzFold.j1] at h⟩
  | k + 1 => by
    obtain ⟨ih0, ih1⟩ := fastjson_zzFold.mono_l k
    refine ⟨?_, ?_⟩
    · intro y0 y1 y2
      unfold fastjson_zzFold.l0
      repeat' first
      | (with_reducible exact ih0 _ _ _)
      | (with_reducible exact ih1 _ _ _ _ _)
      | (with_reducible exact LeO.refl _)
      | (with_reducible exact LeO.none _)
      | (with_reducible refine LeO.ite ?_ ?_)
      | (with_reducible refine LeO.bind ?_ (fun _ => ?_))
      | exact ih0 _ _ _
      | exact ih1 _ _ _ _ _
      | exact LeO.none _
      | refine LeO.ite ?_ ?_
      | refine LeO.bind ?_ (fun _ => ?_)
    · intro y0 y1 y2 y3 y4
      unfold fastjson_zzFold.j1
      repeat' first
      | (with_reducible exact ih0 _ _ _)
      | (with_reducible exact ih1 _ _ _ _ _)
      | (with_reducible exact LeO.refl _)
      | (with_reducible exact LeO.none _)
      | (with_reducible refine LeO.ite ?_ ?_)
      | (with_reducible refine LeO.bind ?_ (fun _ => ?_))
      | exact ih0 _ _ _
      | exact ih1 _ _ _ _ _
      | exact LeO.none _
      | refine LeO.ite ?_ ?_
      | refine LeO.bind ?_ (fun _ => ?_)
theorem fastjson_zzFold.mono : ∀ a0 a1 k, LeO (fastjson_zzFold.f k a0 a1) (fastjson_zzFold.f (k + 1) a0 a1) := by
  intro a0 a1 k
  obtain ⟨ih0, ih1⟩ := fastjson_zzFold.mono_l k
  unfold fastjson_zzFold.f
  repeat' first
      | (with_reducible exact ih0 _ _ _)
      | (with_reducible exact ih1 _ _ _ _ _)
      | (with_reducible exact LeO.refl _)
      | (with_reducible exact LeO.none _)
      | (with_reducible refine LeO.ite ?_ ?_)
      | (with_reducible refine LeO.bind ?_ (fun _ => ?_))
      | exact ih0 _ _ _
      | exact ih1 _ _ _ _ _
      | exact LeO.none _
      | refine LeO.ite ?_ ?_
      | refine LeO.bind ?_ (fun _ => ?_)
set_option maxHeartbeats 8000000 in
set_option maxRecDepth 100000 in
theorem fastjson_zzFold.calls (k : Nat) (a0 : ByteArray) (a1 : ByteArray) (r : Bool) (w : World) (h : fastjson_zzFold.f k a0 a1 = some r) :
    Calls Tryd.prog 48 #[.string a0, .string a1] w fun e w' => e = .returned (.bool r) ∧ Drawn0 w w' := by
  have H : (if (a0.size : Int) = (a1.size : Int) then (fastjson_zzFold.l0 k a0 a1 0) else (some false)) = some r := h
  clear h
  by_cases c3 : (a0.size : Int) = (a1.size : Int)
  · rw [if_pos c3] at H
    have c3b0 : ((a0.size : Int) == (a1.size : Int)) = true := beq_iff_eq.mpr c3
    have c3b1 : ((a0.size : Int) != (a1.size : Int)) = false := bne_eq_false_iff_eq.mpr c3
    have c3b2 : (a0.size == a1.size) = true := by first | simpa using c3 | (simp at c3 ⊢; omega)
    clear c3
    have H' := Aside0.mk H
    clear H
    go_enter Tryd.func48, Tryd.ntmps48
    go_wp2
    (try simp only [Act.put, List.setIfInBounds_toArray, List.set_cons_zero, List.set_cons_succ])
    go_loopg [5] k (fun kq v5 w' => ∃ (x5_1 : Int), v5 = .int .i64 x5_1 ∧ Aside0 (fastjson_zzFold.l0 kq a0 a1 x5_1 = some r) ∧ Aside0 (kq ≤ k) ∧ Drawn0 w w')
    case atStart => exact ⟨(0), (by first | rfl | (simp; done) | (simp [*]; done)), H', ⟨Nat.le_refl _⟩, by repeat (first | exact Drawn0.refl _ | apply Drawn0.step)⟩
    case round =>
      clear H'
      try clear p2
      try clear c3
      try clear c3b0
      try clear c3b1
      try clear c3b2
      obtain ⟨x5_1, rfl, HA, HK1, ⟨m1, rfl⟩⟩ := hrel
      cases gk with
      | zero => exact absurd HA.out (by simp [fastjson_zzFold.l0])
      | succ k1 =>
        have H := HA.out
        clear HA
        simp only [fastjson_zzFold.l0] at H
        by_cases c4 : x5_1 < (a0.size : Int)
        · rw [if_pos c4] at H
          have c4b0 : decide (x5_1 < (a0.size : Int)) = true := decide_eq_true c4
          clear c4
          by_cases c5 : 0 ≤ x5_1
          · rw [if_pos c5] at H
            have c5b0 : decide (0 ≤ x5_1) = true := decide_eq_true c5
            clear c5
            have HC7 := Aside0.mk H
            clear H
            have p6 : 0 ≤ (x5_1 : Int) := of_decide_eq_true (by first | (with_reducible assumption) | assumption)
            have q6 : x5_1 < (a0.size : Int) := of_decide_eq_true (by first | (with_reducible assumption) | assumption)
            have hx6 := bt_at a0 x5_1
            replace p6 := eq_true p6
            replace q6 := eq_true q6
            go_upto_region 7 with (fail)
            go_cut [26] (fun v26 wc => ∃ (kq : Nat) (x26_6 : Bool), v26 = .bool x26_6 ∧ Aside0 (fastjson_zzFold.j1 kq a0 a1 x5_1 (bt a0 x5_1) x26_6 = some r) ∧ Aside0 (kq ≤ k1) ∧ Drawn0 w wc)
            case first =>
              have H := HC7.out
              clear HC7
              by_cases c8 : 65 ≤ (bt a0 x5_1)
              · rw [if_pos c8] at H
                have c8b0 : decide (65 ≤ (bt a0 x5_1)) = true := decide_eq_true c8
                clear c8
                (first | rw [c8b0] | (simp only [i64_w, i32_w]; rw [c8b0]) | skip)
                have H' := Aside0.mk H
                clear H
                go_wp2
                (first | go_meet | (rw [← c3b0]; go_meet))
                case rel => exact ⟨_, (decide ((bt a0 x5_1) ≤ 90)), (by first | rfl | (simp; done) | (simp [*]; done)), H', ⟨by have := HK1.out; first | omega | exact Nat.le_refl _⟩, by repeat (first | exact Drawn0.refl _ | apply Drawn0.step)⟩
              · rw [if_neg c8] at H
                have c8b0 : decide (65 ≤ (bt a0 x5_1)) = false := decide_eq_false c8
                clear c8
                (first | rw [c8b0] | (simp only [i64_w, i32_w]; rw [c8b0]) | skip)
                have H' := Aside0.mk H
                clear H
                go_wp2
                (first | go_meet | (rw [← c3b0]; go_meet))
                case rel => exact ⟨_, (false), (by first | rfl | (simp; done) | (simp [*]; done)), H', ⟨by have := HK1.out; first | omega | exact Nat.le_refl _⟩, by repeat (first | exact Drawn0.refl _ | apply Drawn0.step)⟩
            case rest =>
              clear HC7
              try clear p2
              try clear c3
              try clear c3b0
              try clear c3b1
              try clear c3b2
              try clear c4
              try clear c4b0
              try clear c5
              try clear c5b0
              try clear p6
              try clear q6
              try clear hx6
              try clear c8
              try clear c8b0
              try clear p2
              try clear p6
              try clear q6
              obtain ⟨kq, x26_6, rfl, HA, HJ6, ⟨mc6, rfl⟩⟩ := hcut
              cases kq with
              | zero => exact absurd HA.out (by simp [fastjson_zzFold.j1])
              | succ kj6 =>
                have H := HA.out
                clear HA
                simp only [fastjson_zzFold.j1] at H
                by_cases c9 : x26_6 = true
                · subst c9
                  have H1 : (if 0 ≤ x5_1 then (if x5_1 < (a1.size : Int) then (if (((bt a0 x5_1) + 32) % 256) = (bt a1 x5_1) then (fastjson_zzFold.l0 kj6 a0 a1 (wrap64 (x5_1 + 1))) else (some false)) else (none)) else (none)) = some r := by rw [if_pos rfl] at H; exact H
                  clear H
                  have H := H1
                  clear H1
                  by_cases c10 : 0 ≤ x5_1
                  · rw [if_pos c10] at H
                    have c10b0 : decide (0 ≤ x5_1) = true := decide_eq_true c10
                    clear c10
                    by_cases c11 : x5_1 < (a1.size : Int)
                    · rw [if_pos c11] at H
                      have c11b0 : decide (x5_1 < (a1.size : Int)) = true := decide_eq_true c11
                      clear c11
                      by_cases c13 : (((bt a0 x5_1) + 32) % 256) = (bt a1 x5_1)
                      · rw [if_pos c13] at H
                        have c13b0 : ((((bt a0 x5_1) + 32) % 256) == (bt a1 x5_1)) = true := beq_iff_eq.mpr c13
                        have c13b1 : ((((bt a0 x5_1) + 32) % 256) != (bt a1 x5_1)) = false := bne_eq_false_iff_eq.mpr c13
                        clear c13
                        have H' := Aside0.mk H
                        clear H
                        have p12 : 0 ≤ (x5_1 : Int) := of_decide_eq_true (by first | (with_reducible assumption) | assumption)
                        have q12 : x5_1 < (a1.size : Int) := of_decide_eq_true (by first | (with_reducible assumption) | assumption)
                        have hx12 := bt_at a1 x5_1
                        replace p12 := eq_true p12
                        replace q12 := eq_true q12
                        go_wp2
                        go_roundg kj6
                        case measure => have := HK1.out; have := HJ6.out; omega
                        case rel => exact ⟨(wrap64 (x5_1 + 1)), (by first | rfl | (simp; done) | (simp [*]; done)), H', ⟨by have := HK1.out; have := HJ6.out; omega⟩, by repeat (first | exact Drawn0.refl _ | apply Drawn0.step)⟩
                      · rw [if_neg c13] at H
                        have c13b0 : ((((bt a0 x5_1) + 32) % 256) == (bt a1 x5_1)) = false := beq_eq_false_iff_ne.mpr c13
                        have c13b1 : ((((bt a0 x5_1) + 32) % 256) != (bt a1 x5_1)) = true := bne_iff_ne.mpr c13
                        obtain rfl := Option.some.inj H
                        have p12 : 0 ≤ (x5_1 : Int) := of_decide_eq_true (by first | (with_reducible assumption) | assumption)
                        have q12 : x5_1 < (a1.size : Int) := of_decide_eq_true (by first | (with_reducible assumption) | assumption)
                        have hx12 := bt_at a1 x5_1
                        replace p12 := eq_true p12
                        replace q12 := eq_true q12
                        go_wp2
                        go_ret
                        exact ⟨by first | rfl | (simp; done) | (simp [*]; done), by repeat (first | exact Drawn0.refl _ | apply Drawn0.step)⟩
                    · rw [if_neg c11] at H
                      exact absurd H (by simp)
                  · rw [if_neg c10] at H
                    exact absurd H (by simp)
                · replace c9 := Bool.eq_false_iff.mpr c9
                  subst c9
                  have H1 : (if 0 ≤ x5_1 then (if x5_1 < (a1.size : Int) then (if (bt a0 x5_1) = (bt a1 x5_1) then (fastjson_zzFold.l0 kj6 a0 a1 (wrap64 (x5_1 + 1))) else (some false)) else (none)) else (none)) = some r := by rw [if_neg (show ¬ (false = true) by decide)] at H; exact H
                  clear H
                  have H := H1
                  clear H1
                  by_cases c14 : 0 ≤ x5_1
                  · rw [if_pos c14] at H
                    have c14b0 : decide (0 ≤ x5_1) = true := decide_eq_true c14
                    clear c14
                    by_cases c15 : x5_1 < (a1.size : Int)
                    · rw [if_pos c15] at H
                      have c15b0 : decide (x5_1 < (a1.size : Int)) = true := decide_eq_true c15
                      clear c15
                      by_cases c17 : (bt a0 x5_1) = (bt a1 x5_1)
                      · rw [if_pos c17] at H
                        have c17b0 : ((bt a0 x5_1) == (bt a1 x5_1)) = true := beq_iff_eq.mpr c17
                        have c17b1 : ((bt a0 x5_1) != (bt a1 x5_1)) = false := bne_eq_false_iff_eq.mpr c17
                        clear c17
                        have H' := Aside0.mk H
                        clear H
                        have p16 : 0 ≤ (x5_1 : Int) := of_decide_eq_true (by first | (with_reducible assumption) | assumption)
                        have q16 : x5_1 < (a1.size : Int) := of_decide_eq_true (by first | (with_reducible assumption) | assumption)
                        have hx16 := bt_at a1 x5_1
                        replace p16 := eq_true p16
                        replace q16 := eq_true q16
                        go_wp2
                        go_roundg kj6
                        case measure => have := HK1.out; have := HJ6.out; omega
                        case rel => exact ⟨(wrap64 (x5_1 + 1)), (by first | rfl | (simp; done) | (simp [*]; done)), H', ⟨by have := HK1.out; have := HJ6.out; omega⟩, by repeat (first | exact Drawn0.refl _ | apply Drawn0.step)⟩
                      · rw [if_neg c17] at H
                        have c17b0 : ((bt a0 x5_1) == (bt a1 x5_1)) = false := beq_eq_false_iff_ne.mpr c17
                        have c17b1 : ((bt a0 x5_1) != (bt a1 x5_1)) = true := bne_iff_ne.mpr c17
                        obtain rfl := Option.some.inj H
                        have p16 : 0 ≤ (x5_1 : Int) := of_decide_eq_true (by first | (with_reducible assumption) | assumption)
                        have q16 : x5_1 < (a1.size : Int) := of_decide_eq_true (by first | (with_reducible assumption) | assumption)
                        have hx16 := bt_at a1 x5_1
                        replace p16 := eq_true p16
                        replace q16 := eq_true q16
                        go_wp2
                        go_ret
                        exact ⟨by first | rfl | (simp; done) | (simp [*]; done), by repeat (first | exact Drawn0.refl _ | apply Drawn0.step)⟩
                    · rw [if_neg c15] at H
                      exact absurd H (by simp)
                  · rw [if_neg c14] at H
                    exact absurd H (by simp)
          · rw [if_neg c5] at H
            exact absurd H (by simp)
        · rw [if_neg c4] at H
          have c4b0 : decide (x5_1 < (a0.size : Int)) = false := decide_eq_false c4
          clear c4
          obtain rfl := Option.some.inj H
          go_wp2
          go_ret
          exact ⟨by first | rfl | (simp; done) | (simp [*]; done), by repeat (first | exact Drawn0.refl _ | apply Drawn0.step)⟩
  · rw [if_neg c3] at H
    have c3b0 : ((a0.size : Int) == (a1.size : Int)) = false := beq_eq_false_iff_ne.mpr c3
    have c3b1 : ((a0.size : Int) != (a1.size : Int)) = true := bne_iff_ne.mpr c3
    have c3b2 : (a0.size == a1.size) = false := by first | simpa using c3 | (simp at c3 ⊢; omega)
    obtain rfl := Option.some.inj H
    go_enter Tryd.func48, Tryd.ntmps48
    go_wp2
    go_ret
    exact ⟨by first | rfl | (simp; done) | (simp [*]; done), by repeat (first | exact Drawn0.refl _ | apply Drawn0.step)⟩


/-! ### fastjson_parseRawNumber: function 49 -/
mutual
def fastjson_parseRawNumber.l0 : Nat → ByteArray → Int → Int → Option (ByteArray × ByteArray × Option Int)
  | 0, _, _, _ => none
  | k + 1, x0, x10, x11 => if x11 < x10 then (if 0 ≤ x11 then (if x11 < (x0.size : Int) then (if (bt x0 x11) ≥ 48 then (if (bt x0 x11) ≤ 57 then (fastjson_parseRawNumber.j1 k x0 x11 x10 x11 true) else (if (bt x0 x11) = 46 then (fastjson_parseRawNumber.j1 k x0 x11 x10 x11 true) else (if (bt x0 x11) = 45 then (fastjson_parseRawNumber.j1 k x0 x11 x10 x11 true) else (if (bt x0 x11) = 101 then (fastjson_parseRawNumber.j1 k x0 x11 x10 x11 true) else (if (bt x0 x11) = 69 then (fastjson_parseRawNumber.j1 k x0 x11 x10 x11 true) else (fastjson_parseRawNumber.j1 k x0 x11 x10 x11 ((bt x0 x11) == 43))))))) else (if (bt x0 x11) = 46 then (fastjson_parseRawNumber.j1 k x0 x11 x10 x11 true) else (if (bt x0 x11) = 45 then (fastjson_parseRawNumber.j1 k x0 x11 x10 x11 true) else (if (bt x0 x11) = 101 then (fastjson_parseRawNumber.j1 k x0 x11 x10 x11 true) else (if (bt x0 x11) = 69 then (fastjson_parseRawNumber.j1 k x0 x11 x10 x11 true) else (fastjson_parseRawNumber.j1 k x0 x11 x10 x11 ((bt x0 x11) == 43))))))) else (none)) else (none)) else (some (x0, (⟨#[]⟩ : ByteArray), none))
def fastjson_parseRawNumber.j1 : Nat → ByteArray → Int → Int → Int → Bool → Option (ByteArray × ByteArray × Option Int)
  | 0, _, _, _, _, _ => none
  | k + 1, x0, x5, x10, x11, x42 => if x42 = true then (fastjson_parseRawNumber.l0 k x0 x10 (wrap64 (x11 + 1))) else (if x5 = 0 then (fastjson_parseRawNumber.j2 k x0 x5 true) else (if x5 = 1 then (if 0 < (x0.size : Int) then (if (bt x0 0) = 45 then (fastjson_parseRawNumber.j2 k x0 x5 true) else (fastjson_parseRawNumber.j2 k x0 x5 ((bt x0 0) == 43))) else (none)) else (fastjson_parseRawNumber.j2 k x0 x5 false)))
def fastjson_parseRawNumber.j2 : Nat → ByteArray → Int → Bool → Option (ByteArray × ByteArray × Option Int)
  | 0, _, _, _ => none
  | k + 1, x0, x5, x58 => if x58 = true then (if 0 ≤ x5 then (if x5 ≤ (x0.size : Int) then (if ((x0.extract (x5 : Int).toNat x0.size).size : Int) ≥ 3 then (if x5 ≤ (wrap64 (x5 + 3)) then (if (wrap64 (x5 + 3)) ≤ (x0.size : Int) then ((fastjson_zzFold.f k (x0.extract (x5 : Int).toNat ((wrap64 (x5 + 3)) : Int).toNat) (⟨#[105, 110, 102]⟩ : ByteArray)).bind fun t420 => (if t420 = true then (if 0 ≤ (wrap64 (x5 + 3)) then (some (x0.extract 0 ((wrap64 (x5 + 3)) : Int).toNat, x0.extract ((wrap64 (x5 + 3)) : Int).toNat x0.size, none)) else (none)) else ((fastjson_zzFold.f k (x0.extract (x5 : Int).toNat ((wrap64 (x5 + 3)) : Int).toNat) (⟨#[110, 97, 110]⟩ : ByteArray)).bind fun t421 => (if t421 = true then (if 0 ≤ (wrap64 (x5 + 3)) then (some (x0.extract 0 ((wrap64 (x5 + 3)) : Int).toNat, x0.extract ((wrap64 (x5 + 3)) : Int).toNat x0.size, none)) else (none)) else ((errors_New.f (⟨#[117, 110, 101, 120, 112, 101, 99, 116, 101, 100, 32, 99, 104, 97, 114]⟩ : ByteArray)).bind fun t422 => (some ((⟨#[]⟩ : ByteArray), x0, t422))))))) else (none)) else (none)) else ((errors_New.f (⟨#[117, 110, 101, 120, 112, 101, 99, 116, 101, 100, 32, 99, 104, 97, 114]⟩ : ByteArray)).bind fun t423 => (some ((⟨#[]⟩ : ByteArray), x0, t423)))) else (none)) else (none)) else (if 0 ≤ x5 then (if x5 ≤ (x0.size : Int) then (some (x0.extract 0 (x5 : Int).toNat, x0.extract (x5 : Int).toNat x0.size, none)) else (none)) else (none))
end
def fastjson_parseRawNumber.f (k : Nat) (a0 : ByteArray) : Option (ByteArray × ByteArray × Option Int) := fastjson_parseRawNumber.l0 k a0 (a0.size : Int) 0
theorem fastjson_parseRawNumber.mono_l : ∀ k, (∀ y0 y1 y2, LeO (fastjson_parseRawNumber.l0 k y0 y1 y2) (fastjson_parseRawNumber.l0 (k + 1) y0 y1 y2)) ∧ (∀ y0 y1 y2 y3 y4, LeO (fastjson_parseRawNumber.j1 k y0 y1 y2 y3 y4) (fastjson_parseRawNumber.j1 (k + 1) y0 y1 y2 y3 y4)) ∧ (∀ y0 y1 y2, LeO (fastjson_parseRawNumber.j2 k y0 y1 y2) (fastjson_parseRawNumber.j2 (k + 1) y0 y1 y2))
  | 0 => ⟨fun _ _ _ r h => by simp [fastjson_parseRawNumber.l0] at h, fun _ _ _ _ _ r h => by simp [fastjson_parseRawNumber.j1] at h, fun _ _ _ r h => by simp [fastjson_parseRawNumber.j2] at h⟩
  | k + 1 => by
    obtain ⟨ih0, ih1, ih2⟩ := fastjson_parseRawNumber.mono_l k
    refine ⟨?_, ?_, ?_⟩
    · intro y0 y1 y2
      unfold fastjson_parseRawNumber.l0
      repeat' first
      | (with_reducible exact ih0 _ _ _)
      | (with_reducible exact ih1 _ _ _ _ _)
      | (with_reducible exact ih2 _ _ _)
      | (with_reducible exact fastjson_zzFold.mono _ _ _)
      | (with_reducible exact LeO.refl _)
      | (with_reducible exact LeO.none _)
      | (with_reducible refine LeO.ite ?_ ?_)
      | (with_reducible refine LeO.bind ?_ (fun _ => ?_))
      | exact ih0 _ _ _
      | exact ih1 _ _ _ _ _
      | exact ih2 _ _ _
      | exact fastjson_zzFold.mono _ _ _
      | exact LeO.none _
      | refine LeO.ite ?_ ?_
      | refine LeO.bind ?_ (fun _ => ?_)
    · intro y0 y1 y2 y3 y4
      unfold fastjson_parseRawNumber.j1
      repeat' first
      | (with_reducible exact ih0 _ _ _)
      | (with_reducible exact ih1 _ _ _ _ _)
      | (with_reducible exact ih2 _ _ _)
      | (with_reducible exact fastjson_zzFold.mono _ _ _)
      | (with_reducible exact LeO.refl _)
      | (with_reducible exact LeO.none _)
      | (with_reducible refine LeO.ite ?_ ?_)
      | (with_reducible refine LeO.bind ?_ (fun _ => ?_))
      | exact ih0 _ _ _
      | exact ih1 _ _ _ _ _
      | exact ih2 _ _ _
      | exact fastjson_zzFold.mono _ _ _
      | exact LeO.none _
      | refine LeO.ite ?_ ?_
      | refine LeO.bind ?_ (fun _ => ?_)
    · intro y0 y1 y2
      unfold fastjson_parseRawNumber.j2
      repeat' first
      | (with_reducible exact ih0 _ _ _)
      | (with_reducible exact ih1 _ _ _ _ _)
      | (with_reducible exact ih2 _ _ _)
      | (with_reducible exact fastjson_zzFold.mono _ _ _)
      | (with_reducible exact LeO.refl _)
      | (with_reducible exact LeO.none _)
      | (with_reducible refine LeO.ite ?_ ?_)
      | (with_reducible refine LeO.bind ?_ (fun _ => ?_))
      | exact ih0 _ _ _
      | exact ih1 _ _ _ _ _
      | exact ih2 _ _ _
      | exact fastjson_zzFold.mono _ _ _
      | exact LeO.none _
      | refine LeO.ite ?_ ?_
      | refine LeO.bind ?_ (fun _ => ?_)
theorem fastjson_parseRawNumber.mono : ∀ a0 k, LeO (fastjson_parseRawNumber.f k a0) (fastjson_parseRawNumber.f (k + 1) a0) := by
  intro a0 k
  obtain ⟨ih0, ih1, ih2⟩ := fastjson_parseRawNumber.mono_l k
  unfold fastjson_parseRawNumber.f
  repeat' first
      | (with_reducible exact ih0 _ _ _)
      | (with_reducible exact ih1 _ _ _ _ _)
      | (with_reducible exact ih2 _ _ _)
      | (with_reducible exact fastjson_zzFold.mono _ _ _)
      | (with_reducible exact LeO.refl _)
      | (with_reducible exact LeO.none _)
      | (with_reducible refine LeO.ite ?_ ?_)
      | (with_reducible refine LeO.bind ?_ (fun _ => ?_))
      | exact ih0 _ _ _
      | exact ih1 _ _ _ _ _
      | exact ih2 _ _ _
      | exact fastjson_zzFold.mono _ _ _
      | exact LeO.none _
      | refine LeO.ite ?_ ?_
      | refine LeO.bind ?_ (fun _ => ?_)
set_option maxHeartbeats 8000000 in
set_option maxRecDepth 100000 in
theorem fastjson_parseRawNumber.calls (k : Nat) (a0 : ByteArray) (r1 : ByteArray) (r2 : ByteArray) (r3 : Option Int) (w : World) (h : fastjson_parseRawNumber.f k a0 = some (r1, r2, r3)) :
    Calls Tryd.prog 49 #[.string a0] w fun e w' => ∃ x2_ : TypeId × Value, e = .returned (.tuple #[.string r1, .string r2, errX x2_ r3]) ∧ Below w.heap.size w w' := by
  have HB := Aside0.mk (Below.refl w.heap.size w)
  have H : (fastjson_parseRawNumber.l0 k a0 (a0.size : Int) 0) = some (r1, r2, r3) := h
  clear h
  have H' := Aside0.mk H
  clear H
  go_enter Tryd.func49, Tryd.ntmps49
  go_wp2
  repeat (go_quiet (fail); try go_wp2)
  (try simp only [Act.put, List.setIfInBounds_toArray, List.set_cons_zero, List.set_cons_succ])
  go_loopg [0, 11] k (fun kq v0 v11 w' => ∃ (x0_1 : ByteArray) (x11_1 : Int), v0 = .string x0_1 ∧ v11 = .int .i64 x11_1 ∧ Aside0 (fastjson_parseRawNumber.l0 kq x0_1 (a0.size : Int) x11_1 = some (r1, r2, r3)) ∧ Aside0 (kq ≤ k) ∧ Aside0 (Below w.heap.size w w'))
  case atStart => exact ⟨(a0), (0), (by first | rfl | (simp; done) | (simp [*]; done)), (by first | rfl | (simp; done) | (simp [*]; done)), H', ⟨Nat.le_refl _⟩, ⟨by repeat (first | (with_reducible first | exact HB.out | apply below_alloc | apply pw_below_drewN | apply below_drew1) | exact HB.out)⟩⟩
  case round =>
    clear H'
    obtain ⟨x0_1, x11_1, rfl, rfl, HA, HK1, HB⟩ := hrel
    cases gk with
    | zero => exact absurd HA.out (by simp [fastjson_parseRawNumber.l0])
    | succ k1 =>
      have H := HA.out
      clear HA
      simp only [fastjson_parseRawNumber.l0] at H
      by_cases c2 : x11_1 < (a0.size : Int)
      · rw [if_pos c2] at H
        have c2b0 : decide (x11_1 < (a0.size : Int)) = true := decide_eq_true c2
        clear c2
        by_cases c3 : 0 ≤ x11_1
        · rw [if_pos c3] at H
          have c3b0 : decide (0 ≤ x11_1) = true := decide_eq_true c3
          clear c3
          by_cases c4 : x11_1 < (x0_1.size : Int)
          · rw [if_pos c4] at H
            have c4b0 : decide (x11_1 < (x0_1.size : Int)) = true := decide_eq_true c4
            clear c4
            have HC6 := Aside0.mk H
            clear H
            have p5 : 0 ≤ (x11_1 : Int) := of_decide_eq_true (by first | (with_reducible assumption) | assumption)
            have q5 : x11_1 < (x0_1.size : Int) := of_decide_eq_true (by first | (with_reducible assumption) | assumption)
            have hx5 := bt_at x0_1 x11_1
            replace p5 := eq_true p5
            replace q5 := eq_true q5
            go_upto_region 5 with (fail)
            repeat (go_quiet (fail); go_upto_region 5 with (fail))
            go_cut [42] (fun v42 wc => ∃ (kq : Nat) (x42_5 : Bool), v42 = .bool x42_5 ∧ Aside0 (fastjson_parseRawNumber.j1 kq x0_1 x11_1 (a0.size : Int) x11_1 x42_5 = some (r1, r2, r3)) ∧ Aside0 (kq ≤ k1) ∧ Aside0 (Below w.heap.size w wc))
            case first =>
              have H := HC6.out
              clear HC6
              by_cases c7 : (bt x0_1 x11_1) ≥ 48
              · rw [if_pos c7] at H
                have c7b0 : decide (48 ≤ (bt x0_1 x11_1)) = true := decide_eq_true c7
                clear c7
                (first | rw [c7b0] | (simp only [i64_w, i32_w]; rw [c7b0]) | skip)
                by_cases c8 : (bt x0_1 x11_1) ≤ 57
                · rw [if_pos c8] at H
                  have c8b0 : decide ((bt x0_1 x11_1) ≤ 57) = true := decide_eq_true c8
                  clear c8
                  have H' := Aside0.mk H
                  clear H
                  go_wp2
                  repeat (go_quiet (fail); try go_wp2)
                  (first | go_meet)
                  case rel => exact ⟨_, (true), (by first | rfl | (simp; done) | (simp [*]; done)), H', ⟨by have := HK1.out; first | omega | exact Nat.le_refl _⟩, ⟨by repeat (first | (with_reducible first | exact HB.out | apply below_alloc | apply pw_below_drewN | apply below_drew1) | exact HB.out)⟩⟩
                · rw [if_neg c8] at H
                  have c8b0 : decide ((bt x0_1 x11_1) ≤ 57) = false := decide_eq_false c8
                  clear c8
                  by_cases c9 : (bt x0_1 x11_1) = 46
                  · rw [if_pos c9] at H
                    have c9b0 : ((bt x0_1 x11_1) == 46) = true := beq_iff_eq.mpr c9
                    have c9b1 : ((bt x0_1 x11_1) != 46) = false := bne_eq_false_iff_eq.mpr c9
                    clear c9
                    have H' := Aside0.mk H
                    clear H
                    go_wp2
                    repeat (go_quiet (fail); try go_wp2)
                    (first | go_meet | (rw [← c9b0]; go_meet))
                    case rel => exact ⟨_, (true), (by first | rfl | (simp; done) | (simp [*]; done)), H', ⟨by have := HK1.out; first | omega | exact Nat.le_refl _⟩, ⟨by repeat (first | (with_reducible first | exact HB.out | apply below_alloc | apply pw_below_drewN | apply below_drew1) | exact HB.out)⟩⟩
                  · rw [if_neg c9] at H
                    have c9b0 : ((bt x0_1 x11_1) == 46) = false := beq_eq_false_iff_ne.mpr c9
                    have c9b1 : ((bt x0_1 x11_1) != 46) = true := bne_iff_ne.mpr c9
                    by_cases c10 : (bt x0_1 x11_1) = 45
                    · rw [if_pos c10] at H
                      have c10b0 : ((bt x0_1 x11_1) == 45) = true := beq_iff_eq.mpr c10
                      have c10b1 : ((bt x0_1 x11_1) != 45) = false := bne_eq_false_iff_eq.mpr c10
                      clear c10
                      have H' := Aside0.mk H
                      clear H
                      go_wp2
                      repeat (go_quiet (fail); try go_wp2)
                      (first | go_meet | (rw [← c9b0]; go_meet) | (rw [← c10b0]; go_meet))
                      case rel => exact ⟨_, (true), (by first | rfl | (simp; done) | (simp [*]; done)), H', ⟨by have := HK1.out; first | omega | exact Nat.le_refl _⟩, ⟨by repeat (first | (with_reducible first | exact HB.out | apply below_alloc | apply pw_below_drewN | apply below_drew1) | exact HB.out)⟩⟩
                    · rw [if_neg c10] at H
                      have c10b0 : ((bt x0_1 x11_1) == 45) = false := beq_eq_false_iff_ne.mpr c10
                      have c10b1 : ((bt x0_1 x11_1) != 45) = true := bne_iff_ne.mpr c10
                      by_cases c11 : (bt x0_1 x11_1) = 101
                      · rw [if_pos c11] at H
                        have c11b0 : ((bt x0_1 x11_1) == 101) = true := beq_iff_eq.mpr c11
                        have c11b1 : ((bt x0_1 x11_1) != 101) = false := bne_eq_false_iff_eq.mpr c11
                        clear c11
                        have H' := Aside0.mk H
                        clear H
                        go_wp2
                        repeat (go_quiet (fail); try go_wp2)
                        (first | go_meet | (rw [← c9b0]; go_meet) | (rw [← c10b0]; go_meet) | (rw [← c11b0]; go_meet))
                        case rel => exact ⟨_, (true), (by first | rfl | (simp; done) | (simp [*]; done)), H', ⟨by have := HK1.out; first | omega | exact Nat.le_refl _⟩, ⟨by repeat (first | (with_reducible first | exact HB.out | apply below_alloc | apply pw_below_drewN | apply below_drew1) | exact HB.out)⟩⟩
                      · rw [if_neg c11] at H
                        have c11b0 : ((bt x0_1 x11_1) == 101) = false := beq_eq_false_iff_ne.mpr c11
                        have c11b1 : ((bt x0_1 x11_1) != 101) = true := bne_iff_ne.mpr c11
                        by_cases c12 : (bt x0_1 x11_1) = 69
                        · rw [if_pos c12] at H
                          have c12b0 : ((bt x0_1 x11_1) == 69) = true := beq_iff_eq.mpr c12
                          have c12b1 : ((bt x0_1 x11_1) != 69) = false := bne_eq_false_iff_eq.mpr c12
                          clear c12
                          have H' := Aside0.mk H
                          clear H
                          go_wp2
                          repeat (go_quiet (fail); try go_wp2)
                          (first | go_meet | (rw [← c9b0]; go_meet) | (rw [← c10b0]; go_meet) | (rw [← c11b0]; go_meet) | (rw [← c12b0]; go_meet))
                          case rel => exact ⟨_, (true), (by first | rfl | (simp; done) | (simp [*]; done)), H', ⟨by have := HK1.out; first | omega | exact Nat.le_refl _⟩, ⟨by repeat (first | (with_reducible first | exact HB.out | apply below_alloc | apply pw_below_drewN | apply below_drew1) | exact HB.out)⟩⟩
                        · rw [if_neg c12] at H
                          have c12b0 : ((bt x0_1 x11_1) == 69) = false := beq_eq_false_iff_ne.mpr c12
                          have c12b1 : ((bt x0_1 x11_1) != 69) = true := bne_iff_ne.mpr c12
                          have H' := Aside0.mk H
                          clear H
                          go_wp2
                          repeat (go_quiet (fail); try go_wp2)
                          (first | go_meet | (rw [← c9b0]; go_meet) | (rw [← c10b0]; go_meet) | (rw [← c11b0]; go_meet) | (rw [← c12b0]; go_meet))
                          case rel => exact ⟨_, (((bt x0_1 x11_1) == 43)), (by first | rfl | (simp; done) | (simp [*]; done)), H', ⟨by have := HK1.out; first | omega | exact Nat.le_refl _⟩, ⟨by repeat (first | (with_reducible first | exact HB.out | apply below_alloc | apply pw_below_drewN | apply below_drew1) | exact HB.out)⟩⟩
              · rw [if_neg c7] at H
                have c7b0 : decide (48 ≤ (bt x0_1 x11_1)) = false := decide_eq_false c7
                clear c7
                (first | rw [c7b0] | (simp only [i64_w, i32_w]; rw [c7b0]) | skip)
                by_cases c13 : (bt x0_1 x11_1) = 46
                · rw [if_pos c13] at H
                  have c13b0 : ((bt x0_1 x11_1) == 46) = true := beq_iff_eq.mpr c13
                  have c13b1 : ((bt x0_1 x11_1) != 46) = false := bne_eq_false_iff_eq.mpr c13
                  clear c13
                  have H' := Aside0.mk H
                  clear H
                  go_wp2
                  repeat (go_quiet (fail); try go_wp2)
                  (first | go_meet | (rw [← c13b0]; go_meet))
                  case rel => exact ⟨_, (true), (by first | rfl | (simp; done) | (simp [*]; done)), H', ⟨by have := HK1.out; first | omega | exact Nat.le_refl _⟩, ⟨by repeat (first | (with_reducible first | exact HB.out | apply below_alloc | apply pw_below_drewN | apply below_drew1) | exact HB.out)⟩⟩
                · rw [if_neg c13] at H
                  have c13b0 : ((bt x0_1 x11_1) == 46) = false := beq_eq_false_iff_ne.mpr c13
                  have c13b1 : ((bt x0_1 x11_1) != 46) = true := bne_iff_ne.mpr c13
                  by_cases c14 : (bt x0_1 x11_1) = 45
                  · rw [if_pos c14] at H
                    have c14b0 : ((bt x0_1 x11_1) == 45) = true := beq_iff_eq.mpr c14
                    have c14b1 : ((bt x0_1 x11_1) != 45) = false := bne_eq_false_iff_eq.mpr c14
                    clear c14
                    have H' := Aside0.mk H
                    clear H
                    go_wp2
                    repeat (go_quiet (fail); try go_wp2)
                    (first | go_meet | (rw [← c13b0]; go_meet) | (rw [← c14b0]; go_meet))
                    case rel => exact ⟨_, (true), (by first | rfl | (simp; done) | (simp [*]; done)), H', ⟨by have := HK1.out; first | omega | exact Nat.le_refl _⟩, ⟨by repeat (first | (with_reducible first | exact HB.out | apply below_alloc | apply pw_below_drewN | apply below_drew1) | exact HB.out)⟩⟩
                  · rw [if_neg c14] at H
                    have c14b0 : ((bt x0_1 x11_1) == 45) = false := beq_eq_false_iff_ne.mpr c14
                    have c14b1 : ((bt x0_1 x11_1) != 45) = true := bne_iff_ne.mpr c14
                    by_cases c15 : (bt x0_1 x11_1) = 101
                    · rw [if_pos c15] at H
                      have c15b0 : ((bt x0_1 x11_1) == 101) = true := beq_iff_eq.mpr c15
                      have c15b1 : ((bt x0_1 x11_1) != 101) = false := bne_eq_false_iff_eq.mpr c15
                      clear c15
                      have H' := Aside0.mk H
                      clear H
                      go_wp2
                      repeat (go_quiet (fail); try go_wp2)
                      (first | go_meet | (rw [← c13b0]; go_meet) | (rw [← c14b0]; go_meet) | (rw [← c15b0]; go_meet))
                      case rel => exact ⟨_, (true), (by first | rfl | (simp; done) | (simp [*]; done)), H', ⟨by have := HK1.out; first | omega | exact Nat.le_refl _⟩, ⟨by repeat (first | (with_reducible first | exact HB.out | apply below_alloc | apply pw_below_drewN | apply below_drew1) | exact HB.out)⟩⟩
                    · rw [if_neg c15] at H
                      have c15b0 : ((bt x0_1 x11_1) == 101) = false := beq_eq_false_iff_ne.mpr c15
                      have c15b1 : ((bt x0_1 x11_1) != 101) = true := bne_iff_ne.mpr c15
                      by_cases c16 : (bt x0_1 x11_1) = 69
                      · rw [if_pos c16] at H
                        have c16b0 : ((bt x0_1 x11_1) == 69) = true := beq_iff_eq.mpr c16
                        have c16b1 : ((bt x0_1 x11_1) != 69) = false := bne_eq_false_iff_eq.mpr c16
                        clear c16
                        have H' := Aside0.mk H
                        clear H
                        go_wp2
                        repeat (go_quiet (fail); try go_wp2)
                        (first | go_meet | (rw [← c13b0]; go_meet) | (rw [← c14b0]; go_meet) | (rw [← c15b0]; go_meet) | (rw [← c16b0]; go_meet))
                        case rel => exact ⟨_, (true), (by first | rfl | (simp; done) | (simp [*]; done)), H', ⟨by have := HK1.out; first | omega | exact Nat.le_refl _⟩, ⟨by repeat (first | (with_reducible first | exact HB.out | apply below_alloc | apply pw_below_drewN | apply below_drew1) | exact HB.out)⟩⟩
                      · rw [if_neg c16] at H
                        have c16b0 : ((bt x0_1 x11_1) == 69) = false := beq_eq_false_iff_ne.mpr c16
                        have c16b1 : ((bt x0_1 x11_1) != 69) = true := bne_iff_ne.mpr c16
                        have H' := Aside0.mk H
                        clear H
                        go_wp2
                        repeat (go_quiet (fail); try go_wp2)
                        (first | go_meet | (rw [← c13b0]; go_meet) | (rw [← c14b0]; go_meet) | (rw [← c15b0]; go_meet) | (rw [← c16b0]; go_meet))
                        case rel => exact ⟨_, (((bt x0_1 x11_1) == 43)), (by first | rfl | (simp; done) | (simp [*]; done)), H', ⟨by have := HK1.out; first | omega | exact Nat.le_refl _⟩, ⟨by repeat (first | (with_reducible first | exact HB.out | apply below_alloc | apply pw_below_drewN | apply below_drew1) | exact HB.out)⟩⟩
            case rest =>
              clear HC6
              try clear c1
              try clear c2
              try clear c2b0
              try clear p2
              try clear c3
              try clear c3b0
              try clear c4
              try clear c4b0
              try clear p5
              try clear q5
              try clear hx5
              try clear c7
              try clear c7b0
              try clear c8
              try clear c8b0
              try clear c9
              try clear c9b0
              try clear c9b1
              try clear c10
              try clear c10b0
              try clear c10b1
              try clear c11
              try clear c11b0
              try clear c11b1
              try clear c12
              try clear c12b0
              try clear c12b1
              try clear c13
              try clear c13b0
              try clear c13b1
              try clear c14
              try clear c14b0
              try clear c14b1
              try clear c15
              try clear c15b0
              try clear c15b1
              try clear c16
              try clear c16b0
              try clear c16b1
              try clear p5
              try clear q5
              obtain ⟨kq, x42_5, rfl, HA, HJ5, HB⟩ := hcut
              cases kq with
              | zero => exact absurd HA.out (by simp [fastjson_parseRawNumber.j1])
              | succ kj5 =>
                have H := HA.out
                clear HA
                simp only [fastjson_parseRawNumber.j1] at H
                by_cases c17 : x42_5 = true
                · subst c17
                  have H1 : (fastjson_parseRawNumber.l0 kj5 x0_1 (a0.size : Int) (wrap64 (x11_1 + 1))) = some (r1, r2, r3) := by rw [if_pos rfl] at H; exact H
                  clear H
                  have H := H1
                  clear H1
                  have H' := Aside0.mk H
                  clear H
                  go_wp2
                  repeat (go_quiet (fail); try go_wp2)
                  go_roundg kj5
                  case measure => have := HK1.out; have := HJ5.out; omega
                  case rel => exact ⟨(x0_1), (wrap64 (x11_1 + 1)), (by first | rfl | (simp; done) | (simp [*]; done)), (by first | rfl | (simp; done) | (simp [*]; done)), H', ⟨by have := HK1.out; have := HJ5.out; omega⟩, ⟨by repeat (first | (with_reducible first | exact HB.out | apply below_alloc | apply pw_below_drewN | apply below_drew1) | exact HB.out)⟩⟩
                · replace c17 := Bool.eq_false_iff.mpr c17
                  subst c17
                  have H1 : (if x11_1 = 0 then (fastjson_parseRawNumber.j2 kj5 x0_1 x11_1 true) else (if x11_1 = 1 then (if 0 < (x0_1.size : Int) then (if (bt x0_1 0) = 45 then (fastjson_parseRawNumber.j2 kj5 x0_1 x11_1 true) else (fastjson_parseRawNumber.j2 kj5 x0_1 x11_1 ((bt x0_1 0) == 43))) else (none)) else (fastjson_parseRawNumber.j2 kj5 x0_1 x11_1 false))) = some (r1, r2, r3) := by rw [if_neg (show ¬ (false = true) by decide)] at H; exact H
                  clear H
                  have H := H1
                  clear H1
                  have HC18 := Aside0.mk H
                  clear H
                  go_upto_region 6 with (fail)
                  repeat (go_quiet (fail); go_upto_region 6 with (fail))
                  go_cut [58] (fun v58 wc => ∃ (kq : Nat) (x58_17 : Bool), v58 = .bool x58_17 ∧ Aside0 (fastjson_parseRawNumber.j2 kq x0_1 x11_1 x58_17 = some (r1, r2, r3)) ∧ Aside0 (kq ≤ kj5) ∧ Aside0 (Below w.heap.size w wc))
                  case first =>
                    have H := HC18.out
                    clear HC18
                    by_cases c19 : x11_1 = 0
                    · rw [if_pos c19] at H
                      have c19b0 : (x11_1 == 0) = true := beq_iff_eq.mpr c19
                      have c19b1 : (x11_1 != 0) = false := bne_eq_false_iff_eq.mpr c19
                      clear c19
                      (first | rw [c19b0] | (simp only [i64_w, i32_w]; rw [c19b0]) | skip)
                      have H' := Aside0.mk H
                      clear H
                      go_wp2
                      repeat (go_quiet (fail); try go_wp2)
                      (first | go_meet | (rw [← c19b0]; go_meet))
                      case rel => exact ⟨_, (true), (by first | rfl | (simp; done) | (simp [*]; done)), H', ⟨by have := HK1.out; have := HJ5.out; first | omega | exact Nat.le_refl _⟩, ⟨by repeat (first | (with_reducible first | exact HB.out | apply below_alloc | apply pw_below_drewN | apply below_drew1) | exact HB.out)⟩⟩
                    · rw [if_neg c19] at H
                      have c19b0 : (x11_1 == 0) = false := beq_eq_false_iff_ne.mpr c19
                      have c19b1 : (x11_1 != 0) = true := bne_iff_ne.mpr c19
                      (first | rw [c19b0] | (simp only [i64_w, i32_w]; rw [c19b0]) | skip)
                      by_cases c20 : x11_1 = 1
                      · rw [if_pos c20] at H
                        have c20b0 : (x11_1 == 1) = true := beq_iff_eq.mpr c20
                        have c20b1 : (x11_1 != 1) = false := bne_eq_false_iff_eq.mpr c20
                        clear c20
                        by_cases c21 : 0 < (x0_1.size : Int)
                        · rw [if_pos c21] at H
                          have c21b0 : decide (0 < (x0_1.size : Int)) = true := decide_eq_true c21
                          have c21b1 : decide (0 < x0_1.size) = true := decide_eq_true (by omega)
                          clear c21
                          by_cases c23 : (bt x0_1 0) = 45
                          · rw [if_pos c23] at H
                            have c23b0 : ((bt x0_1 0) == 45) = true := beq_iff_eq.mpr c23
                            have c23b1 : ((bt x0_1 0) != 45) = false := bne_eq_false_iff_eq.mpr c23
                            clear c23
                            have H' := Aside0.mk H
                            clear H
                            have p22 : 0 ≤ (0 : Int) := (by omega)
                            have q22 : 0 < x0_1.size := (by have : (0 : Int) < (x0_1.size : Int) := of_decide_eq_true (by first | (with_reducible assumption) | assumption); omega)
                            have hx22 : ∀ h : 0 < x0_1.size, ((x0_1[0]'h).toNat : Int) = bt x0_1 0 := bt_at x0_1 0
                            clear p22
                            have qi22 : (0 < (x0_1.size : Int)) = True := eq_true (of_decide_eq_true (by first | (with_reducible assumption) | assumption))
                            replace q22 := eq_true q22
                            go_wp2
                            repeat (go_quiet (fail); try go_wp2)
                            (first | go_meet | (rw [← c19b0]; go_meet) | (rw [← c20b0]; go_meet) | (rw [← c23b0]; go_meet))
                            case rel => exact ⟨_, (true), (by first | rfl | (simp; done) | (simp [*]; done)), H', ⟨by have := HK1.out; have := HJ5.out; first | omega | exact Nat.le_refl _⟩, ⟨by repeat (first | (with_reducible first | exact HB.out | apply below_alloc | apply pw_below_drewN | apply below_drew1) | exact HB.out)⟩⟩
                          · rw [if_neg c23] at H
                            have c23b0 : ((bt x0_1 0) == 45) = false := beq_eq_false_iff_ne.mpr c23
                            have c23b1 : ((bt x0_1 0) != 45) = true := bne_iff_ne.mpr c23
                            have H' := Aside0.mk H
                            clear H
                            have p22 : 0 ≤ (0 : Int) := (by omega)
                            have q22 : 0 < x0_1.size := (by have : (0 : Int) < (x0_1.size : Int) := of_decide_eq_true (by first | (with_reducible assumption) | assumption); omega)
                            have hx22 : ∀ h : 0 < x0_1.size, ((x0_1[0]'h).toNat : Int) = bt x0_1 0 := bt_at x0_1 0
                            clear p22
                            have qi22 : (0 < (x0_1.size : Int)) = True := eq_true (of_decide_eq_true (by first | (with_reducible assumption) | assumption))
                            replace q22 := eq_true q22
                            have p24 : 0 ≤ (0 : Int) := (by omega)
                            have q24 : 0 < x0_1.size := (by have : (0 : Int) < (x0_1.size : Int) := of_decide_eq_true (by first | (with_reducible assumption) | assumption); omega)
                            have hx24 : ∀ h : 0 < x0_1.size, ((x0_1[0]'h).toNat : Int) = bt x0_1 0 := bt_at x0_1 0
                            clear p24
                            have qi24 : (0 < (x0_1.size : Int)) = True := eq_true (of_decide_eq_true (by first | (with_reducible assumption) | assumption))
                            replace q24 := eq_true q24
                            go_wp2
                            repeat (go_quiet (fail); try go_wp2)
                            (first | go_meet | (rw [← c19b0]; go_meet) | (rw [← c20b0]; go_meet) | (rw [← c23b0]; go_meet))
                            case rel => exact ⟨_, (((bt x0_1 0) == 43)), (by first | rfl | (simp; done) | (simp [*]; done)), H', ⟨by have := HK1.out; have := HJ5.out; first | omega | exact Nat.le_refl _⟩, ⟨by repeat (first | (with_reducible first | exact HB.out | apply below_alloc | apply pw_below_drewN | apply below_drew1) | exact HB.out)⟩⟩
                        · rw [if_neg c21] at H
                          exact absurd H (by simp)
                      · rw [if_neg c20] at H
                        have c20b0 : (x11_1 == 1) = false := beq_eq_false_iff_ne.mpr c20
                        have c20b1 : (x11_1 != 1) = true := bne_iff_ne.mpr c20
                        have H' := Aside0.mk H
                        clear H
                        go_wp2
                        repeat (go_quiet (fail); try go_wp2)
                        (first | go_meet | (rw [← c19b0]; go_meet) | (rw [← c20b0]; go_meet))
                        case rel => exact ⟨_, (false), (by first | rfl | (simp; done) | (simp [*]; done)), H', ⟨by have := HK1.out; have := HJ5.out; first | omega | exact Nat.le_refl _⟩, ⟨by repeat (first | (with_reducible first | exact HB.out | apply below_alloc | apply pw_below_drewN | apply below_drew1) | exact HB.out)⟩⟩
                  case rest =>
                    clear HC18
                    try clear c1
                    try clear c2
                    try clear c2b0
                    try clear p2
                    try clear q2
                    try clear hx2
                    try clear qi2
                    try clear c3
                    try clear c3b0
                    try clear c4
                    try clear c4b0
                    try clear p5
                    try clear q5
                    try clear hx5
                    try clear p6
                    try clear c7
                    try clear c7b0
                    try clear c8
                    try clear c8b0
                    try clear c9
                    try clear c9b0
                    try clear c9b1
                    try clear c10
                    try clear c10b0
                    try clear c10b1
                    try clear c11
                    try clear c11b0
                    try clear c11b1
                    try clear c12
                    try clear c12b0
                    try clear c12b1
                    try clear c13
                    try clear c13b0
                    try clear c13b1
                    try clear c14
                    try clear c14b0
                    try clear c14b1
                    try clear c15
                    try clear c15b0
                    try clear c15b1
                    try clear c16
                    try clear c16b0
                    try clear c16b1
                    try clear c17
                    try clear c19
                    try clear c19b0
                    try clear c19b1
                    try clear c20
                    try clear c20b0
                    try clear c20b1
                    try clear c21
                    try clear c21b0
                    try clear c21b1
                    try clear p22
                    try clear q22
                    try clear hx22
                    try clear qi22
                    try clear c23
                    try clear c23b0
                    try clear c23b1
                    try clear p24
                    try clear q24
                    try clear hx24
                    try clear qi24
                    try clear p2
                    try clear p22
                    try clear p24
                    try clear p5
                    try clear q22
                    try clear q24
                    try clear q5
                    obtain ⟨kq, x58_17, rfl, HA, HJ17, HB⟩ := hcut
                    cases kq with
                    | zero => exact absurd HA.out (by simp [fastjson_parseRawNumber.j2])
                    | succ kj17 =>
                      have H := HA.out
                      clear HA
                      simp only [fastjson_parseRawNumber.j2] at H
                      by_cases c25 : x58_17 = true
                      · subst c25
                        have H1 : (if 0 ≤ x11_1 then (if x11_1 ≤ (x0_1.size : Int) then (if ((x0_1.extract (x11_1 : Int).toNat x0_1.size).size : Int) ≥ 3 then (if x11_1 ≤ (wrap64 (x11_1 + 3)) then (if (wrap64 (x11_1 + 3)) ≤ (x0_1.size : Int) then ((fastjson_zzFold.f kj17 (x0_1.extract (x11_1 : Int).toNat ((wrap64 (x11_1 + 3)) : Int).toNat) (⟨#[105, 110, 102]⟩ : ByteArray)).bind fun t420 => (if t420 = true then (if 0 ≤ (wrap64 (x11_1 + 3)) then (some (x0_1.extract 0 ((wrap64 (x11_1 + 3)) : Int).toNat, x0_1.extract ((wrap64 (x11_1 + 3)) : Int).toNat x0_1.size, none)) else (none)) else ((fastjson_zzFold.f kj17 (x0_1.extract (x11_1 : Int).toNat ((wrap64 (x11_1 + 3)) : Int).toNat) (⟨#[110, 97, 110]⟩ : ByteArray)).bind fun t421 => (if t421 = true then (if 0 ≤ (wrap64 (x11_1 + 3)) then (some (x0_1.extract 0 ((wrap64 (x11_1 + 3)) : Int).toNat, x0_1.extract ((wrap64 (x11_1 + 3)) : Int).toNat x0_1.size, none)) else (none)) else ((errors_New.f (⟨#[117, 110, 101, 120, 112, 101, 99, 116, 101, 100, 32, 99, 104, 97, 114]⟩ : ByteArray)).bind fun t422 => (some ((⟨#[]⟩ : ByteArray), x0_1, t422))))))) else (none)) else (none)) else ((errors_New.f (⟨#[117, 110, 101, 120, 112, 101, 99, 116, 101, 100, 32, 99, 104, 97, 114]⟩ : ByteArray)).bind fun t423 => (some ((⟨#[]⟩ : ByteArray), x0_1, t423)))) else (none)) else (none)) = some (r1, r2, r3) := by rw [if_pos rfl] at H; exact H
                        clear H
                        have H := H1
                        clear H1
                        by_cases c26 : 0 ≤ x11_1
                        · rw [if_pos c26] at H
                          have c26b0 := eq_true c26
                          have c26b1 : decide (0 ≤ x11_1) = true := decide_eq_true c26
                          clear c26
                          by_cases c27 : x11_1 ≤ (x0_1.size : Int)
                          · rw [if_pos c27] at H
                            have c27b0 := eq_true c27
                            have c27b1 : decide (x11_1 ≤ (x0_1.size : Int)) = true := decide_eq_true c27
                            clear c27
                            by_cases c28 : ((x0_1.extract (x11_1 : Int).toNat x0_1.size).size : Int) ≥ 3
                            · rw [if_pos c28] at H
                              have c28b0 : decide (3 ≤ ((x0_1.extract (x11_1 : Int).toNat x0_1.size).size : Int)) = true := decide_eq_true c28
                              have c28e0 := c28b0
                              (try simp only [ByteArray.size_extract, Nat.min_self] at c28e0)
                              (first | have c28f0 := of_decide_eq_true c28e0 | have c28f0 := of_decide_eq_false c28e0 | skip)
                              have c28b1 : decide (3 ≤ (x0_1.extract (x11_1 : Int).toNat x0_1.size).size) = true := decide_eq_true (by omega)
                              have c28e1 := c28b1
                              (try simp only [ByteArray.size_extract, Nat.min_self] at c28e1)
                              (first | have c28f1 := of_decide_eq_true c28e1 | have c28f1 := of_decide_eq_false c28e1 | skip)
                              clear c28
                              have c29b0 := eq_true (of_decide_eq_true (by first | (with_reducible assumption) | assumption) : 0 ≤ x11_1)
                              by_cases c30 : x11_1 ≤ (wrap64 (x11_1 + 3))
                              · rw [if_pos c30] at H
                                have c30b0 := eq_true c30
                                have c30b1 : decide (x11_1 ≤ (wrap64 (x11_1 + 3))) = true := decide_eq_true c30
                                by_cases c31 : (wrap64 (x11_1 + 3)) ≤ (x0_1.size : Int)
                                · rw [if_pos c31] at H
                                  have c31b0 := eq_true c31
                                  have c31b1 : decide ((wrap64 (x11_1 + 3)) ≤ (x0_1.size : Int)) = true := decide_eq_true c31
                                  replace H := Option.bind_eq_some_iff.mp H
                                  obtain ⟨t420, A320, H⟩ := H
                                  replace H : (if t420 = true then (if 0 ≤ (wrap64 (x11_1 + 3)) then (some (x0_1.extract 0 ((wrap64 (x11_1 + 3)) : Int).toNat, x0_1.extract ((wrap64 (x11_1 + 3)) : Int).toNat x0_1.size, none)) else (none)) else ((fastjson_zzFold.f kj17 (x0_1.extract (x11_1 : Int).toNat ((wrap64 (x11_1 + 3)) : Int).toNat) (⟨#[110, 97, 110]⟩ : ByteArray)).bind fun t421 => (if t421 = true then (if 0 ≤ (wrap64 (x11_1 + 3)) then (some (x0_1.extract 0 ((wrap64 (x11_1 + 3)) : Int).toNat, x0_1.extract ((wrap64 (x11_1 + 3)) : Int).toNat x0_1.size, none)) else (none)) else ((errors_New.f (⟨#[117, 110, 101, 120, 112, 101, 99, 116, 101, 100, 32, 99, 104, 97, 114]⟩ : ByteArray)).bind fun t422 => (some ((⟨#[]⟩ : ByteArray), x0_1, t422)))))) = some (r1, r2, r3) := H
                                  have A32 := Aside0.mk A320
                                  clear A320
                                  by_cases c33 : t420 = true
                                  · subst c33
                                    have H1 : (if 0 ≤ (wrap64 (x11_1 + 3)) then (some (x0_1.extract 0 ((wrap64 (x11_1 + 3)) : Int).toNat, x0_1.extract ((wrap64 (x11_1 + 3)) : Int).toNat x0_1.size, none)) else (none)) = some (r1, r2, r3) := by rw [if_pos rfl] at H; exact H
                                    clear H
                                    have H := H1
                                    clear H1
                                    obtain ⟨ji34, hji34⟩ : ∃ j_ : Int, (wrap64 (x11_1 + 3)) = j_ := ⟨_, rfl⟩
                                    replace H : (if 0 ≤ (ji34) then (some (x0_1.extract 0 ((ji34) : Int).toNat, x0_1.extract ((ji34) : Int).toNat x0_1.size, none)) else (none)) = some (r1, r2, r3) := by first | (rw [hji34] at H; exact H) | (simp only [hji34] at H ⊢; exact H)
                                    (try rw [hji34] at c30b0)
                                    (try rw [hji34] at c30b1)
                                    (try rw [hji34] at c30)
                                    (try rw [hji34] at c31b0)
                                    (try rw [hji34] at c31b1)
                                    (try rw [hji34] at c31)
                                    (try rw [hji34] at A32)
                                    have hji34w : (IntKind.i64.wrap (x11_1 + 3)) = ji34 := (i64_w _).trans hji34
                                    by_cases c35 : 0 ≤ (ji34)
                                    · rw [if_pos c35] at H
                                      have c35b0 := eq_true c35
                                      have c35b1 : decide (0 ≤ (ji34)) = true := decide_eq_true c35
                                      clear c35
                                      have c36b0 := eq_true (of_decide_eq_true (by first | (with_reducible assumption) | assumption) : (ji34) ≤ (x0_1.size : Int))
                                      have c37b0 := eq_true (of_decide_eq_true (by first | (with_reducible assumption) | assumption) : 0 ≤ (ji34))
                                      have c38b0 := eq_true (of_decide_eq_true (by first | (with_reducible assumption) | assumption) : (ji34) ≤ (x0_1.size : Int))
                                      simp only [Option.some.injEq, Prod.mk.injEq] at H
                                      obtain ⟨rfl, rfl, rfl⟩ := H
                                      go_wp2_with (first | (go_at_call 48; (with_reducible refine (fastjson_zzFold.calls kj17 (x0_1.extract (x11_1 : Int).toNat ((ji34) : Int).toNat) (⟨#[105, 110, 102]⟩ : ByteArray) true _ A32.out).mono ?_); rintro e w' ⟨rfl, ⟨nd, rfl⟩⟩; (try first | exact ⟨rfl, _, World.drewN_drewN _ _ _⟩ | exact ⟨rfl, _, Eq.trans (World.drewN_drewN _ _ _) (congrArg (World.drewN _) (Nat.add_assoc _ _ _))⟩)))
                                      repeat (go_quiet (first | (go_at_call 48; (with_reducible refine (fastjson_zzFold.calls kj17 (x0_1.extract (x11_1 : Int).toNat ((ji34) : Int).toNat) (⟨#[105, 110, 102]⟩ : ByteArray) true _ A32.out).mono ?_); rintro e w' ⟨rfl, ⟨nd, rfl⟩⟩; (try first | exact ⟨rfl, _, World.drewN_drewN _ _ _⟩ | exact ⟨rfl, _, Eq.trans (World.drewN_drewN _ _ _) (congrArg (World.drewN _) (Nat.add_assoc _ _ _))⟩))); try go_wp2_with (first | (go_at_call 48; (with_reducible refine (fastjson_zzFold.calls kj17 (x0_1.extract (x11_1 : Int).toNat ((ji34) : Int).toNat) (⟨#[105, 110, 102]⟩ : ByteArray) true _ A32.out).mono ?_); rintro e w' ⟨rfl, ⟨nd, rfl⟩⟩; (try first | exact ⟨rfl, _, World.drewN_drewN _ _ _⟩ | exact ⟨rfl, _, Eq.trans (World.drewN_drewN _ _ _) (congrArg (World.drewN _) (Nat.add_assoc _ _ _))⟩))))
                                      go_ret3
                                      first | exact ⟨noX, by first | rfl | (simp [errX_none, errX_some] <;> rfl) | (simp only [← hji34]; first | rfl | (simp [errX_none, errX_some] <;> rfl)) | (simp [*, errX_none, errX_some] <;> rfl), by repeat (first | (with_reducible first | exact HB.out | apply below_alloc | apply pw_below_drewN | apply below_drew1) | exact HB.out)⟩ | exact ⟨noX.1, noX.2, by first | rfl | (simp [errX_none, errX_some] <;> rfl) | (simp only [← hji34]; first | rfl | (simp [errX_none, errX_some] <;> rfl)) | (simp [*, errX_none, errX_some] <;> rfl), by repeat (first | (with_reducible first | exact HB.out | apply below_alloc | apply pw_below_drewN | apply below_drew1) | exact HB.out)⟩ | exact ⟨⟨noX, by first | rfl | (simp [errX_none, errX_some] <;> rfl) | (simp only [← hji34]; first | rfl | (simp [errX_none, errX_some] <;> rfl)) | (simp [*, errX_none, errX_some] <;> rfl)⟩, by repeat (first | (with_reducible first | exact HB.out | apply below_alloc | apply pw_below_drewN | apply below_drew1) | exact HB.out)⟩ | exact ⟨⟨noX.1, noX.2, by first | rfl | (simp [errX_none, errX_some] <;> rfl) | (simp only [← hji34]; first | rfl | (simp [errX_none, errX_some] <;> rfl)) | (simp [*, errX_none, errX_some] <;> rfl)⟩, by repeat (first | (with_reducible first | exact HB.out | apply below_alloc | apply pw_below_drewN | apply below_drew1) | exact HB.out)⟩
                                    · rw [if_neg c35] at H
                                      exact absurd H (by simp)
                                  · replace c33 := Bool.eq_false_iff.mpr c33
                                    subst c33
                                    have H1 : ((fastjson_zzFold.f kj17 (x0_1.extract (x11_1 : Int).toNat ((wrap64 (x11_1 + 3)) : Int).toNat) (⟨#[110, 97, 110]⟩ : ByteArray)).bind fun t421 => (if t421 = true then (if 0 ≤ (wrap64 (x11_1 + 3)) then (some (x0_1.extract 0 ((wrap64 (x11_1 + 3)) : Int).toNat, x0_1.extract ((wrap64 (x11_1 + 3)) : Int).toNat x0_1.size, none)) else (none)) else ((errors_New.f (⟨#[117, 110, 101, 120, 112, 101, 99, 116, 101, 100, 32, 99, 104, 97, 114]⟩ : ByteArray)).bind fun t422 => (some ((⟨#[]⟩ : ByteArray), x0_1, t422))))) = some (r1, r2, r3) := by rw [if_neg (show ¬ (false = true) by decide)] at H; exact H
                                    clear H
                                    have H := H1
                                    clear H1
                                    replace H := Option.bind_eq_some_iff.mp H
                                    obtain ⟨t421, A390, H⟩ := H
                                    replace H : (if t421 = true then (if 0 ≤ (wrap64 (x11_1 + 3)) then (some (x0_1.extract 0 ((wrap64 (x11_1 + 3)) : Int).toNat, x0_1.extract ((wrap64 (x11_1 + 3)) : Int).toNat x0_1.size, none)) else (none)) else ((errors_New.f (⟨#[117, 110, 101, 120, 112, 101, 99, 116, 101, 100, 32, 99, 104, 97, 114]⟩ : ByteArray)).bind fun t422 => (some ((⟨#[]⟩ : ByteArray), x0_1, t422)))) = some (r1, r2, r3) := H
                                    have A39 := Aside0.mk A390
                                    clear A390
                                    by_cases c40 : t421 = true
                                    · subst c40
                                      have H1 : (if 0 ≤ (wrap64 (x11_1 + 3)) then (some (x0_1.extract 0 ((wrap64 (x11_1 + 3)) : Int).toNat, x0_1.extract ((wrap64 (x11_1 + 3)) : Int).toNat x0_1.size, none)) else (none)) = some (r1, r2, r3) := by rw [if_pos rfl] at H; exact H
                                      clear H
                                      have H := H1
                                      clear H1
                                      obtain ⟨ji41, hji41⟩ : ∃ j_ : Int, (wrap64 (x11_1 + 3)) = j_ := ⟨_, rfl⟩
                                      replace H : (if 0 ≤ (ji41) then (some (x0_1.extract 0 ((ji41) : Int).toNat, x0_1.extract ((ji41) : Int).toNat x0_1.size, none)) else (none)) = some (r1, r2, r3) := by first | (rw [hji41] at H; exact H) | (simp only [hji41] at H ⊢; exact H)
                                      (try rw [hji41] at c30b0)
                                      (try rw [hji41] at c30b1)
                                      (try rw [hji41] at c30)
                                      (try rw [hji41] at c31b0)
                                      (try rw [hji41] at c31b1)
                                      (try rw [hji41] at c31)
                                      (try rw [hji41] at A32)
                                      (try rw [hji41] at A39)
                                      have hji41w : (IntKind.i64.wrap (x11_1 + 3)) = ji41 := (i64_w _).trans hji41
                                      by_cases c42 : 0 ≤ (ji41)
                                      · rw [if_pos c42] at H
                                        have c42b0 := eq_true c42
                                        have c42b1 : decide (0 ≤ (ji41)) = true := decide_eq_true c42
                                        clear c42
                                        have c43b0 := eq_true (of_decide_eq_true (by first | (with_reducible assumption) | assumption) : (ji41) ≤ (x0_1.size : Int))
                                        have c44b0 := eq_true (of_decide_eq_true (by first | (with_reducible assumption) | assumption) : 0 ≤ (ji41))
                                        have c45b0 := eq_true (of_decide_eq_true (by first | (with_reducible assumption) | assumption) : (ji41) ≤ (x0_1.size : Int))
                                        have c45e0 := c45b0
                                        (try simp only [ByteArray.size_extract, Nat.min_self] at c45e0)
                                        (first | have c45f0 := of_decide_eq_true c45e0 | have c45f0 := of_decide_eq_false c45e0 | skip)
                                        simp only [Option.some.injEq, Prod.mk.injEq] at H
                                        obtain ⟨rfl, rfl, rfl⟩ := H
                                        go_wp2_with (first | (go_at_call 48; (with_reducible refine (fastjson_zzFold.calls kj17 (x0_1.extract (x11_1 : Int).toNat ((ji41) : Int).toNat) (⟨#[105, 110, 102]⟩ : ByteArray) false _ A32.out).mono ?_); rintro e w' ⟨rfl, ⟨nd, rfl⟩⟩; (try first | exact ⟨rfl, _, World.drewN_drewN _ _ _⟩ | exact ⟨rfl, _, Eq.trans (World.drewN_drewN _ _ _) (congrArg (World.drewN _) (Nat.add_assoc _ _ _))⟩)) | (go_at_call 48; (with_reducible refine (fastjson_zzFold.calls kj17 (x0_1.extract (x11_1 : Int).toNat ((ji41) : Int).toNat) (⟨#[110, 97, 110]⟩ : ByteArray) true _ A39.out).mono ?_); rintro e w' ⟨rfl, ⟨nd, rfl⟩⟩; (try first | exact ⟨rfl, _, World.drewN_drewN _ _ _⟩ | exact ⟨rfl, _, Eq.trans (World.drewN_drewN _ _ _) (congrArg (World.drewN _) (Nat.add_assoc _ _ _))⟩)))
                                        repeat (go_quiet (first | (go_at_call 48; (with_reducible refine (fastjson_zzFold.calls kj17 (x0_1.extract (x11_1 : Int).toNat ((ji41) : Int).toNat) (⟨#[105, 110, 102]⟩ : ByteArray) false _ A32.out).mono ?_); rintro e w' ⟨rfl, ⟨nd, rfl⟩⟩; (try first | exact ⟨rfl, _, World.drewN_drewN _ _ _⟩ | exact ⟨rfl, _, Eq.trans (World.drewN_drewN _ _ _) (congrArg (World.drewN _) (Nat.add_assoc _ _ _))⟩)) | (go_at_call 48; (with_reducible refine (fastjson_zzFold.calls kj17 (x0_1.extract (x11_1 : Int).toNat ((ji41) : Int).toNat) (⟨#[110, 97, 110]⟩ : ByteArray) true _ A39.out).mono ?_); rintro e w' ⟨rfl, ⟨nd, rfl⟩⟩; (try first | exact ⟨rfl, _, World.drewN_drewN _ _ _⟩ | exact ⟨rfl, _, Eq.trans (World.drewN_drewN _ _ _) (congrArg (World.drewN _) (Nat.add_assoc _ _ _))⟩))); try go_wp2_with (first | (go_at_call 48; (with_reducible refine (fastjson_zzFold.calls kj17 (x0_1.extract (x11_1 : Int).toNat ((ji41) : Int).toNat) (⟨#[105, 110, 102]⟩ : ByteArray) false _ A32.out).mono ?_); rintro e w' ⟨rfl, ⟨nd, rfl⟩⟩; (try first | exact ⟨rfl, _, World.drewN_drewN _ _ _⟩ | exact ⟨rfl, _, Eq.trans (World.drewN_drewN _ _ _) (congrArg (World.drewN _) (Nat.add_assoc _ _ _))⟩)) | (go_at_call 48; (with_reducible refine (fastjson_zzFold.calls kj17 (x0_1.extract (x11_1 : Int).toNat ((ji41) : Int).toNat) (⟨#[110, 97, 110]⟩ : ByteArray) true _ A39.out).mono ?_); rintro e w' ⟨rfl, ⟨nd, rfl⟩⟩; (try first | exact ⟨rfl, _, World.drewN_drewN _ _ _⟩ | exact ⟨rfl, _, Eq.trans (World.drewN_drewN _ _ _) (congrArg (World.drewN _) (Nat.add_assoc _ _ _))⟩))))
                                        go_ret3
                                        first | exact ⟨noX, by first | rfl | (simp [errX_none, errX_some] <;> rfl) | (simp only [← hji41]; first | rfl | (simp [errX_none, errX_some] <;> rfl)) | (simp [*, errX_none, errX_some] <;> rfl), by repeat (first | (with_reducible first | exact HB.out | apply below_alloc | apply pw_below_drewN | apply below_drew1) | exact HB.out)⟩ | exact ⟨noX.1, noX.2, by first | rfl | (simp [errX_none, errX_some] <;> rfl) | (simp only [← hji41]; first | rfl | (simp [errX_none, errX_some] <;> rfl)) | (simp [*, errX_none, errX_some] <;> rfl), by repeat (first | (with_reducible first | exact HB.out | apply below_alloc | apply pw_below_drewN | apply below_drew1) | exact HB.out)⟩ | exact ⟨⟨noX, by first | rfl | (simp [errX_none, errX_some] <;> rfl) | (simp only [← hji41]; first | rfl | (simp [errX_none, errX_some] <;> rfl)) | (simp [*, errX_none, errX_some] <;> rfl)⟩, by repeat (first | (with_reducible first | exact HB.out | apply below_alloc | apply pw_below_drewN | apply below_drew1) | exact HB.out)⟩ | exact ⟨⟨noX.1, noX.2, by first | rfl | (simp [errX_none, errX_some] <;> rfl) | (simp only [← hji41]; first | rfl | (simp [errX_none, errX_some] <;> rfl)) | (simp [*, errX_none, errX_some] <;> rfl)⟩, by repeat (first | (with_reducible first | exact HB.out | apply below_alloc | apply pw_below_drewN | apply below_drew1) | exact HB.out)⟩
                                      · rw [if_neg c42] at H
                                        exact absurd H (by simp)
                                    · replace c40 := Bool.eq_false_iff.mpr c40
                                      subst c40
                                      have H1 : ((errors_New.f (⟨#[117, 110, 101, 120, 112, 101, 99, 116, 101, 100, 32, 99, 104, 97, 114]⟩ : ByteArray)).bind fun t422 => (some ((⟨#[]⟩ : ByteArray), x0_1, t422))) = some (r1, r2, r3) := by rw [if_neg (show ¬ (false = true) by decide)] at H; exact H
                                      clear H
                                      have H := H1
                                      clear H1
                                      replace H := Option.bind_eq_some_iff.mp H
                                      obtain ⟨t422, A460, H⟩ := H
                                      replace H : (some ((⟨#[]⟩ : ByteArray), x0_1, t422)) = some (r1, r2, r3) := H
                                      have A46 := Aside0.mk A460
                                      clear A460
                                      simp only [Option.some.injEq, Prod.mk.injEq] at H
                                      obtain ⟨rfl, rfl, rfl⟩ := H
                                      go_wp2_with (first | (go_at_call 48; (with_reducible refine (fastjson_zzFold.calls kj17 (x0_1.extract (x11_1 : Int).toNat ((wrap64 (x11_1 + 3)) : Int).toNat) (⟨#[105, 110, 102]⟩ : ByteArray) false _ A32.out).mono ?_); rintro e w' ⟨rfl, ⟨nd, rfl⟩⟩; (try first | exact ⟨rfl, _, World.drewN_drewN _ _ _⟩ | exact ⟨rfl, _, Eq.trans (World.drewN_drewN _ _ _) (congrArg (World.drewN _) (Nat.add_assoc _ _ _))⟩)) | (go_at_call 48; (with_reducible refine (fastjson_zzFold.calls kj17 (x0_1.extract (x11_1 : Int).toNat ((wrap64 (x11_1 + 3)) : Int).toNat) (⟨#[110, 97, 110]⟩ : ByteArray) false _ A39.out).mono ?_); rintro e w' ⟨rfl, ⟨nd, rfl⟩⟩; (try first | exact ⟨rfl, _, World.drewN_drewN _ _ _⟩ | exact ⟨rfl, _, Eq.trans (World.drewN_drewN _ _ _) (congrArg (World.drewN _) (Nat.add_assoc _ _ _))⟩)) | (go_at_call 29; (with_reducible refine (errors_New.calls (⟨#[117, 110, 101, 120, 112, 101, 99, 116, 101, 100, 32, 99, 104, 97, 114]⟩ : ByteArray) t422 _ A46.out).mono ?_); rintro e w47 ⟨ex_t422, rfl, hb⟩; have n0_ := Aside0.mk (below_step (by repeat (first | (with_reducible first | exact HB.out | apply below_alloc | apply pw_below_drewN | apply below_drew1) | exact HB.out)) hb); clear HB; have HB := n0_; clear n0_; (try clear hb); (try clear hb2); (try clear hk); (try clear hi); (try simp only [errX_none, errX_some])))
                                      repeat (go_quiet (first | (go_at_call 48; (with_reducible refine (fastjson_zzFold.calls kj17 (x0_1.extract (x11_1 : Int).toNat ((wrap64 (x11_1 + 3)) : Int).toNat) (⟨#[105, 110, 102]⟩ : ByteArray) false _ A32.out).mono ?_); rintro e w' ⟨rfl, ⟨nd, rfl⟩⟩; (try first | exact ⟨rfl, _, World.drewN_drewN _ _ _⟩ | exact ⟨rfl, _, Eq.trans (World.drewN_drewN _ _ _) (congrArg (World.drewN _) (Nat.add_assoc _ _ _))⟩)) | (go_at_call 48; (with_reducible refine (fastjson_zzFold.calls kj17 (x0_1.extract (x11_1 : Int).toNat ((wrap64 (x11_1 + 3)) : Int).toNat) (⟨#[110, 97, 110]⟩ : ByteArray) false _ A39.out).mono ?_); rintro e w' ⟨rfl, ⟨nd, rfl⟩⟩; (try first | exact ⟨rfl, _, World.drewN_drewN _ _ _⟩ | exact ⟨rfl, _, Eq.trans (World.drewN_drewN _ _ _) (congrArg (World.drewN _) (Nat.add_assoc _ _ _))⟩)) | (go_at_call 29; (with_reducible refine (errors_New.calls (⟨#[117, 110, 101, 120, 112, 101, 99, 116, 101, 100, 32, 99, 104, 97, 114]⟩ : ByteArray) t422 _ A46.out).mono ?_); rintro e w47 ⟨ex_t422, rfl, hb⟩; have n0_ := Aside0.mk (below_step (by repeat (first | (with_reducible first | exact HB.out | apply below_alloc | apply pw_below_drewN | apply below_drew1) | exact HB.out)) hb); clear HB; have HB := n0_; clear n0_; (try clear hb); (try clear hb2); (try clear hk); (try clear hi); (try simp only [errX_none, errX_some]))); try go_wp2_with (first | (go_at_call 48; (with_reducible refine (fastjson_zzFold.calls kj17 (x0_1.extract (x11_1 : Int).toNat ((wrap64 (x11_1 + 3)) : Int).toNat) (⟨#[105, 110, 102]⟩ : ByteArray) false _ A32.out).mono ?_); rintro e w' ⟨rfl, ⟨nd, rfl⟩⟩; (try first | exact ⟨rfl, _, World.drewN_drewN _ _ _⟩ | exact ⟨rfl, _, Eq.trans (World.drewN_drewN _ _ _) (congrArg (World.drewN _) (Nat.add_assoc _ _ _))⟩)) | (go_at_call 48; (with_reducible refine (fastjson_zzFold.calls kj17 (x0_1.extract (x11_1 : Int).toNat ((wrap64 (x11_1 + 3)) : Int).toNat) (⟨#[110, 97, 110]⟩ : ByteArray) false _ A39.out).mono ?_); rintro e w' ⟨rfl, ⟨nd, rfl⟩⟩; (try first | exact ⟨rfl, _, World.drewN_drewN _ _ _⟩ | exact ⟨rfl, _, Eq.trans (World.drewN_drewN _ _ _) (congrArg (World.drewN _) (Nat.add_assoc _ _ _))⟩)) | (go_at_call 29; (with_reducible refine (errors_New.calls (⟨#[117, 110, 101, 120, 112, 101, 99, 116, 101, 100, 32, 99, 104, 97, 114]⟩ : ByteArray) t422 _ A46.out).mono ?_); rintro e w47 ⟨ex_t422, rfl, hb⟩; have n0_ := Aside0.mk (below_step (by repeat (first | (with_reducible first | exact HB.out | apply below_alloc | apply pw_below_drewN | apply below_drew1) | exact HB.out)) hb); clear HB; have HB := n0_; clear n0_; (try clear hb); (try clear hb2); (try clear hk); (try clear hi); (try simp only [errX_none, errX_some]))))
                                      go_ret3
                                      first | exact ⟨ex_t422, by first | rfl | (simp [errX_none, errX_some] <;> rfl) | (simp [*, errX_none, errX_some] <;> rfl), by repeat (first | (with_reducible first | exact HB.out | apply below_alloc | apply pw_below_drewN | apply below_drew1) | exact HB.out)⟩ | exact ⟨ex_t422.1, ex_t422.2, by first | rfl | (simp [errX_none, errX_some] <;> rfl) | (simp [*, errX_none, errX_some] <;> rfl), by repeat (first | (with_reducible first | exact HB.out | apply below_alloc | apply pw_below_drewN | apply below_drew1) | exact HB.out)⟩ | exact ⟨⟨ex_t422, by first | rfl | (simp [errX_none, errX_some] <;> rfl) | (simp [*, errX_none, errX_some] <;> rfl)⟩, by repeat (first | (with_reducible first | exact HB.out | apply below_alloc | apply pw_below_drewN | apply below_drew1) | exact HB.out)⟩ | exact ⟨⟨ex_t422.1, ex_t422.2, by first | rfl | (simp [errX_none, errX_some] <;> rfl) | (simp [*, errX_none, errX_some] <;> rfl)⟩, by repeat (first | (with_reducible first | exact HB.out | apply below_alloc | apply pw_below_drewN | apply below_drew1) | exact HB.out)⟩
                                · rw [if_neg c31] at H
                                  exact absurd H (by simp)
                              · rw [if_neg c30] at H
                                exact absurd H (by simp)
                            · rw [if_neg c28] at H
                              have c28b0 : decide (3 ≤ ((x0_1.extract (x11_1 : Int).toNat x0_1.size).size : Int)) = false := decide_eq_false c28
                              have c28e0 := c28b0
                              (try simp only [ByteArray.size_extract, Nat.min_self] at c28e0)
                              (first | have c28f0 := of_decide_eq_true c28e0 | have c28f0 := of_decide_eq_false c28e0 | skip)
                              have c28b1 : decide (3 ≤ (x0_1.extract (x11_1 : Int).toNat x0_1.size).size) = false := decide_eq_false (by omega)
                              have c28e1 := c28b1
                              (try simp only [ByteArray.size_extract, Nat.min_self] at c28e1)
                              (first | have c28f1 := of_decide_eq_true c28e1 | have c28f1 := of_decide_eq_false c28e1 | skip)
                              clear c28
                              replace H := Option.bind_eq_some_iff.mp H
                              obtain ⟨t423, A480, H⟩ := H
                              replace H : (some ((⟨#[]⟩ : ByteArray), x0_1, t423)) = some (r1, r2, r3) := H
                              have A48 := Aside0.mk A480
                              clear A480
                              simp only [Option.some.injEq, Prod.mk.injEq] at H
                              obtain ⟨rfl, rfl, rfl⟩ := H
                              go_wp2_with (first | (go_at_call 29; (with_reducible refine (errors_New.calls (⟨#[117, 110, 101, 120, 112, 101, 99, 116, 101, 100, 32, 99, 104, 97, 114]⟩ : ByteArray) t423 _ A48.out).mono ?_); rintro e w49 ⟨ex_t423, rfl, hb⟩; have n0_ := Aside0.mk (below_step (by repeat (first | (with_reducible first | exact HB.out | apply below_alloc | apply pw_below_drewN | apply below_drew1) | exact HB.out)) hb); clear HB; have HB := n0_; clear n0_; (try clear hb); (try clear hb2); (try clear hk); (try clear hi); (try simp only [errX_none, errX_some])))
                              repeat (go_quiet (first | (go_at_call 29; (with_reducible refine (errors_New.calls (⟨#[117, 110, 101, 120, 112, 101, 99, 116, 101, 100, 32, 99, 104, 97, 114]⟩ : ByteArray) t423 _ A48.out).mono ?_); rintro e w49 ⟨ex_t423, rfl, hb⟩; have n0_ := Aside0.mk (below_step (by repeat (first | (with_reducible first | exact HB.out | apply below_alloc | apply pw_below_drewN | apply below_drew1) | exact HB.out)) hb); clear HB; have HB := n0_; clear n0_; (try clear hb); (try clear hb2); (try clear hk); (try clear hi); (try simp only [errX_none, errX_some]))); try go_wp2_with (first | (go_at_call 29; (with_reducible refine (errors_New.calls (⟨#[117, 110, 101, 120, 112, 101, 99, 116, 101, 100, 32, 99, 104, 97, 114]⟩ : ByteArray) t423 _ A48.out).mono ?_); rintro e w49 ⟨ex_t423, rfl, hb⟩; have n0_ := Aside0.mk (below_step (by repeat (first | (with_reducible first | exact HB.out | apply below_alloc | apply pw_below_drewN | apply below_drew1) | exact HB.out)) hb); clear HB; have HB := n0_; clear n0_; (try clear hb); (try clear hb2); (try clear hk); (try clear hi); (try simp only [errX_none, errX_some]))))
                              go_ret3
                              first | exact ⟨ex_t423, by first | rfl | (simp [errX_none, errX_some] <;> rfl) | (simp [*, errX_none, errX_some] <;> rfl), by repeat (first | (with_reducible first | exact HB.out | apply below_alloc | apply pw_below_drewN | apply below_drew1) | exact HB.out)⟩ | exact ⟨ex_t423.1, ex_t423.2, by first | rfl | (simp [errX_none, errX_some] <;> rfl) | (simp [*, errX_none, errX_some] <;> rfl), by repeat (first | (with_reducible first | exact HB.out | apply below_alloc | apply pw_below_drewN | apply below_drew1) | exact HB.out)⟩ | exact ⟨⟨ex_t423, by first | rfl | (simp [errX_none, errX_some] <;> rfl) | (simp [*, errX_none, errX_some] <;> rfl)⟩, by repeat (first | (with_reducible first | exact HB.out | apply below_alloc | apply pw_below_drewN | apply below_drew1) | exact HB.out)⟩ | exact ⟨⟨ex_t423.1, ex_t423.2, by first | rfl | (simp [errX_none, errX_some] <;> rfl) | (simp [*, errX_none, errX_some] <;> rfl)⟩, by repeat (first | (with_reducible first | exact HB.out | apply below_alloc | apply pw_below_drewN | apply below_drew1) | exact HB.out)⟩
                          · rw [if_neg c27] at H
                            exact absurd H (by simp)
                        · rw [if_neg c26] at H
                          exact absurd H (by simp)
                      · replace c25 := Bool.eq_false_iff.mpr c25
                        subst c25
                        have H1 : (if 0 ≤ x11_1 then (if x11_1 ≤ (x0_1.size : Int) then (some (x0_1.extract 0 (x11_1 : Int).toNat, x0_1.extract (x11_1 : Int).toNat x0_1.size, none)) else (none)) else (none)) = some (r1, r2, r3) := by rw [if_neg (show ¬ (false = true) by decide)] at H; exact H
                        clear H
                        have H := H1
                        clear H1
                        by_cases c50 : 0 ≤ x11_1
                        · rw [if_pos c50] at H
                          have c50b0 := eq_true c50
                          have c50b1 : decide (0 ≤ x11_1) = true := decide_eq_true c50
                          clear c50
                          by_cases c51 : x11_1 ≤ (x0_1.size : Int)
                          · rw [if_pos c51] at H
                            have c51b0 := eq_true c51
                            have c51b1 : decide (x11_1 ≤ (x0_1.size : Int)) = true := decide_eq_true c51
                            clear c51
                            have c52b0 := eq_true (of_decide_eq_true (by first | (with_reducible assumption) | assumption) : 0 ≤ x11_1)
                            have c53b0 := eq_true (of_decide_eq_true (by first | (with_reducible assumption) | assumption) : x11_1 ≤ (x0_1.size : Int))
                            simp only [Option.some.injEq, Prod.mk.injEq] at H
                            obtain ⟨rfl, rfl, rfl⟩ := H
                            go_wp2
                            repeat (go_quiet (fail); try go_wp2)
                            go_ret3
                            first | exact ⟨noX, by first | rfl | (simp [errX_none, errX_some] <;> rfl) | (simp [*, errX_none, errX_some] <;> rfl), by repeat (first | (with_reducible first | exact HB.out | apply below_alloc | apply pw_below_drewN | apply below_drew1) | exact HB.out)⟩ | exact ⟨noX.1, noX.2, by first | rfl | (simp [errX_none, errX_some] <;> rfl) | (simp [*, errX_none, errX_some] <;> rfl), by repeat (first | (with_reducible first | exact HB.out | apply below_alloc | apply pw_below_drewN | apply below_drew1) | exact HB.out)⟩ | exact ⟨⟨noX, by first | rfl | (simp [errX_none, errX_some] <;> rfl) | (simp [*, errX_none, errX_some] <;> rfl)⟩, by repeat (first | (with_reducible first | exact HB.out | apply below_alloc | apply pw_below_drewN | apply below_drew1) | exact HB.out)⟩ | exact ⟨⟨noX.1, noX.2, by first | rfl | (simp [errX_none, errX_some] <;> rfl) | (simp [*, errX_none, errX_some] <;> rfl)⟩, by repeat (first | (with_reducible first | exact HB.out | apply below_alloc | apply pw_below_drewN | apply below_drew1) | exact HB.out)⟩
                          · rw [if_neg c51] at H
                            exact absurd H (by simp)
                        · rw [if_neg c50] at H
                          exact absurd H (by simp)
          · rw [if_neg c4] at H
            exact absurd H (by simp)
        · rw [if_neg c3] at H
          exact absurd H (by simp)
      · rw [if_neg c2] at H
        have c2b0 : decide (x11_1 < (a0.size : Int)) = false := decide_eq_false c2
        clear c2
        simp only [Option.some.injEq, Prod.mk.injEq] at H
        obtain ⟨rfl, rfl, rfl⟩ := H
        go_wp2
        repeat (go_quiet (fail); try go_wp2)
        go_ret3
        first | exact ⟨noX, by first | rfl | (simp [errX_none, errX_some] <;> rfl) | (simp [*, errX_none, errX_some] <;> rfl), by repeat (first | (with_reducible first | exact HB.out | apply below_alloc | apply pw_below_drewN | apply below_drew1) | exact HB.out)⟩ | exact ⟨noX.1, noX.2, by first | rfl | (simp [errX_none, errX_some] <;> rfl) | (simp [*, errX_none, errX_some] <;> rfl), by repeat (first | (with_reducible first | exact HB.out | apply below_alloc | apply pw_below_drewN | apply below_drew1) | exact HB.out)⟩ | exact ⟨⟨noX, by first | rfl | (simp [errX_none, errX_some] <;> rfl) | (simp [*, errX_none, errX_some] <;> rfl)⟩, by repeat (first | (with_reducible first | exact HB.out | apply below_alloc | apply pw_below_drewN | apply below_drew1) | exact HB.out)⟩ | exact ⟨⟨noX.1, noX.2, by first | rfl | (simp [errX_none, errX_some] <;> rfl) | (simp [*, errX_none, errX_some] <;> rfl)⟩, by repeat (first | (with_reducible first | exact HB.out | apply below_alloc | apply pw_below_drewN | apply below_drew1) | exact HB.out)⟩


end Go.Proofs.YtfoloneeibgoiaaDoor.Lex
