-- Written for this claim by this session's own program (wip/xprint).
import Derived.Test.YtkhgbacbnkgafaaDoorProg
import Derived.Below
import Derived.Deep.Draws
import Derived.Deep.AppendLies
import Derived.Maps.AppendAt
import Derived.OwnWalk
import Derived.Laws.BytesArg
import Derived.Laws.MakeOwn
import Derived.Laws.OwnMore
import Derived.Deep.OwnRows
import Derived.Tactics
import Derived.Lib.ConvBytes
import Derived.Laws.Slices
import Derived.WalkKit
import Derived.KernelRfl
import Derived.RowKit3
import Derived.Deep.LoopGhost
import Derived.Deep.QuietTactic
import Derived.BigQuiet
import Derived.WideLaws
import Derived.Deep.DeepCutAuto
import Derived.Deep.CutBlock
import Derived.Deep.RegionHeld3
import Derived.Laws.Rows
import Derived.Lib.AppendStr
import Derived.ArgAppend
import Derived.Laws.IdiomCopy
import Derived.OrdersHeld
import Derived.Laws.BitsLemmas
import Derived.RowKit
import Derived.Test.YtkhgbacbnkgafaaDoorRsIdx
import Derived.Test.YtkhgbacbnkgafaaDoorRsErr
import Derived.Test.YtkhgbacbnkgafaaDoorXWords
import Derived.Test.YtkhgbacbnkgafaaDoorWWords
import Derived.Test.YtkhgbacbnkgafaaDoorWLast
import Derived.Test.YtkhgbacbnkgafaaDoorWTab
import Derived.Test.YtkhgbacbnkgafaaDoorWFour
import Derived.Test.YtkhgbacbnkgafaaDoorWQPut
import Derived.Test.YtkhgbacbnkgafaaDoorWApart
import Derived.Test.YtkhgbacbnkgafaaDoorWArr
import Derived.Test.YtkhgbacbnkgafaaDoorWZeros
import Derived.Test.YtkhgbacbnkgafaaDoorWFoot
import Derived.Test.YtkhgbacbnkgafaaDoorWKept
import Derived.Test.YtkhgbacbnkgafaaDoorWShare
import Derived.Test.YtkhgbacbnkgafaaDoorWN
import Derived.Test.YtkhgbacbnkgafaaDoorWFootNe
import Derived.Test.YtkhgbacbnkgafaaDoorWAt
import Derived.Test.YtkhgbacbnkgafaaDoorWEqStruct
import Derived.Test.YtkhgbacbnkgafaaDoorWRepsOne
import Derived.Test.YtkhgbacbnkgafaaDoorWInv
import Derived.Test.YtkhgbacbnkgafaaDoorWInvWords
import Derived.Test.YtkhgbacbnkgafaaDoorWGuard
import Derived.Test.YtkhgbacbnkgafaaDoorWNEv
import Derived.Test.YtkhgbacbnkgafaaDoorWMore
namespace Go.Proofs.YtkhgbacbnkgafaaDoor.Lex
open Go.RowKit Go.Proofs.YtkhgbacbnkgafaaDoorW.PrintWords Go.Proofs.YtkhgbacbnkgafaaDoorW.PrintLast Go.Proofs.YtkhgbacbnkgafaaDoorW.PrintMore
attribute [local go_sem] max2_int min2_int max_two min_two max_three min_three max_four min_four   -- for this text's walks alone
set_option linter.unusedVariables false
set_option linter.unusedSimpArgs false
def errW : Option Int → Value
  | none => .nilIface
  | some c => .iface 0 (.int .i64 c)
theorem errW_none : errW none = .nilIface := rfl
theorem errW_some (c : Int) : errW (some c) = .iface 0 (.int .i64 c) := rfl

theorem info5 : (Tryd.prog.info? 5).map (fun i => (i.zero, i.size, i.bytes)) = some (some (.int .u8 0), 1, 1) := by kernel_rfl
theorem info32 : (Tryd.prog.info? 32).map (fun i => (i.zero, i.size, i.bytes)) = some (some (.agg #[(.int .i64 0), (.int .i64 0), (.int .i64 0), (.slice none 0 0), (.slice none 0 0)]), 5, 72) := by kernel_rfl
theorem info69 : (Tryd.prog.info? 69).map (fun i => (i.zero, i.size, i.bytes)) = some (some (.agg #[(.int .i64 0), (.int .i64 0)]), 2, 16) := by kernel_rfl
/-! ### fastjson_parseRawString: function 29 -/
mutual
def fastjson_parseRawString.j0 : Nat → ByteArray → Int → Bool → Option (ByteArray × ByteArray × Option Int)
  | 0, _, _, _ => none
  | k + 1, x0, x5, x22 => if x22 = true then (if 0 ≤ x5 then (if x5 ≤ (x0.size : Int) then (if 0 ≤ (wrap64 (x5 + 1)) then (if (wrap64 (x5 + 1)) ≤ (x0.size : Int) then (some (x0.extract 0 (x5 : Int).toNat, x0.extract ((wrap64 (x5 + 1)) : Int).toNat x0.size, none)) else (none)) else (none)) else (none)) else (none)) else (fastjson_parseRawString.l0 k x0 x5 x0)
def fastjson_parseRawString.l0 : Nat → ByteArray → Int → ByteArray → Option (ByteArray × ByteArray × Option Int)
  | 0, _, _, _ => none
  | k + 1, x0, x5, x6 => fastjson_parseRawString.l1 k x0 x5 x6 (wrap64 (x5 - 1))
def fastjson_parseRawString.j3 : Nat → ByteArray → Int → ByteArray → Int → Option (ByteArray × ByteArray × Option Int)
  | 0, _, _, _, _ => none
  | k + 1, x0, x5, x6, x7 => if (Int.tmod (IntKind.u64.wrap (wrap64 (x5 - x7))) 2) = 0 then (if 0 ≤ (wrap64 ((wrap64 ((x6.size : Int) - (x0.size : Int))) + x5)) then (if (wrap64 ((wrap64 ((x6.size : Int) - (x0.size : Int))) + x5)) ≤ (x6.size : Int) then (if 0 ≤ (wrap64 (x5 + 1)) then (if (wrap64 (x5 + 1)) ≤ (x0.size : Int) then (some (x6.extract 0 ((wrap64 ((wrap64 ((x6.size : Int) - (x0.size : Int))) + x5)) : Int).toNat, x0.extract ((wrap64 (x5 + 1)) : Int).toNat x0.size, none)) else (none)) else (none)) else (none)) else (none)) else (if 0 ≤ (wrap64 (x5 + 1)) then (if (wrap64 (x5 + 1)) ≤ (x0.size : Int) then ((strings_IndexByte.f (x0.extract ((wrap64 (x5 + 1)) : Int).toNat x0.size) 34).bind fun t401 => (if t401 < 0 then ((errors_New.f (⟨#[109, 105, 115, 115, 105, 110, 103, 32, 99, 108, 111, 115, 105, 110, 103]⟩ : ByteArray)).bind fun t402 => (some (x6, (⟨#[]⟩ : ByteArray), t402))) else (if t401 = 0 then (if 0 ≤ (wrap64 ((wrap64 ((x6.size : Int) - ((x0.extract ((wrap64 (x5 + 1)) : Int).toNat x0.size).size : Int))) + t401)) then (if (wrap64 ((wrap64 ((x6.size : Int) - ((x0.extract ((wrap64 (x5 + 1)) : Int).toNat x0.size).size : Int))) + t401)) ≤ (x6.size : Int) then (if 0 ≤ (wrap64 (t401 + 1)) then (if (wrap64 (t401 + 1)) ≤ ((x0.extract ((wrap64 (x5 + 1)) : Int).toNat x0.size).size : Int) then (some (x6.extract 0 ((wrap64 ((wrap64 ((x6.size : Int) - ((x0.extract ((wrap64 (x5 + 1)) : Int).toNat x0.size).size : Int))) + t401)) : Int).toNat, (x0.extract ((wrap64 (x5 + 1)) : Int).toNat x0.size).extract ((wrap64 (t401 + 1)) : Int).toNat (x0.extract ((wrap64 (x5 + 1)) : Int).toNat x0.size).size, none)) else (none)) else (none)) else (none)) else (none)) else (if 0 ≤ (wrap64 (t401 - 1)) then (if (wrap64 (t401 - 1)) < ((x0.extract ((wrap64 (x5 + 1)) : Int).toNat x0.size).size : Int) then (if (bt (x0.extract ((wrap64 (x5 + 1)) : Int).toNat x0.size) (wrap64 (t401 - 1))) = 92 then (fastjson_parseRawString.l0 k (x0.extract ((wrap64 (x5 + 1)) : Int).toNat x0.size) t401 x6) else (if 0 ≤ (wrap64 ((wrap64 ((x6.size : Int) - ((x0.extract ((wrap64 (x5 + 1)) : Int).toNat x0.size).size : Int))) + t401)) then (if (wrap64 ((wrap64 ((x6.size : Int) - ((x0.extract ((wrap64 (x5 + 1)) : Int).toNat x0.size).size : Int))) + t401)) ≤ (x6.size : Int) then (if 0 ≤ (wrap64 (t401 + 1)) then (if (wrap64 (t401 + 1)) ≤ ((x0.extract ((wrap64 (x5 + 1)) : Int).toNat x0.size).size : Int) then (some (x6.extract 0 ((wrap64 ((wrap64 ((x6.size : Int) - ((x0.extract ((wrap64 (x5 + 1)) : Int).toNat x0.size).size : Int))) + t401)) : Int).toNat, (x0.extract ((wrap64 (x5 + 1)) : Int).toNat x0.size).extract ((wrap64 (t401 + 1)) : Int).toNat (x0.extract ((wrap64 (x5 + 1)) : Int).toNat x0.size).size, none)) else (none)) else (none)) else (none)) else (none))) else (none)) else (none))))) else (none)) else (none))
def fastjson_parseRawString.l1 : Nat → ByteArray → Int → ByteArray → Int → Option (ByteArray × ByteArray × Option Int)
  | 0, _, _, _, _ => none
  | k + 1, x0, x5, x6, x7 => if x7 > 0 then (if 0 ≤ (wrap64 (x7 - 1)) then (if (wrap64 (x7 - 1)) < (x0.size : Int) then (if (bt x0 (wrap64 (x7 - 1))) = 92 then (fastjson_parseRawString.l1 k x0 x5 x6 (wrap64 (x7 - 1))) else (fastjson_parseRawString.j3 k x0 x5 x6 x7)) else (none)) else (none)) else (fastjson_parseRawString.j3 k x0 x5 x6 x7)
end
def fastjson_parseRawString.f (k : Nat) (a0 : ByteArray) : Option (ByteArray × ByteArray × Option Int) := (strings_IndexByte.f a0 34).bind fun t399 => (if t399 < 0 then ((errors_New.f (⟨#[109, 105, 115, 115, 105, 110, 103, 32, 99, 108, 111, 115, 105, 110, 103]⟩ : ByteArray)).bind fun t400 => (some (a0, (⟨#[]⟩ : ByteArray), t400))) else (if t399 = 0 then (fastjson_parseRawString.j0 k a0 t399 true) else (if 0 ≤ (wrap64 (t399 - 1)) then (if (wrap64 (t399 - 1)) < (a0.size : Int) then (fastjson_parseRawString.j0 k a0 t399 ((bt a0 (wrap64 (t399 - 1))) != 92)) else (none)) else (none))))
theorem fastjson_parseRawString.mono_l : ∀ k, (∀ y0 y1 y2, LeO (fastjson_parseRawString.j0 k y0 y1 y2) (fastjson_parseRawString.j0 (k + 1) y0 y1 y2)) ∧ (∀ y0 y1 y2, LeO (fastjson_parseRawString.l0 k y0 y1 y2) (fastjson_parseRawString.l0 (k + 1) y0 y1 y2)) ∧ (∀ y0 y1 y2 y3, LeO (fastjson_parseRawString.j3 k y0 y1 y2 y3) (fastjson_parseRawString.j3 (k + 1) y0 y1 y2 y3)) ∧ (∀ y0 y1 y2 y3, LeO (fastjson_parseRawString.l1 k y0 y1 y2 y3) (fastjson_parseRawString.l1 (k + 1) y0 y1 y2 y3))
  | 0 => ⟨fun _ _ _ r h => by simp [fastjson_parseRawString.j0] at h, fun _ _ _ r h => by simp [fastjson_parseRawString.l0] at h, fun _ _ _ _ r h => by simp [fastjson_parseRawString.j3] at h, fun _ _ _ _ r h => by simp [fastjson_parseRawString.l1] at h⟩
  | k + 1 => by
    obtain ⟨ih0, ih1, ih2, ih3⟩ := fastjson_parseRawString.mono_l k
    refine ⟨?_, ?_, ?_, ?_⟩
    · intro y0 y1 y2
      unfold fastjson_parseRawString.j0
      repeat' first
      | (with_reducible exact ih0 _ _ _)
      | (with_reducible exact ih1 _ _ _)
      | (with_reducible exact ih2 _ _ _ _)
      | (with_reducible exact ih3 _ _ _ _)
      | (with_reducible exact LeO.refl _)
      | (with_reducible exact LeO.none _)
      | (with_reducible refine LeO.ite ?_ ?_)
      | (with_reducible refine LeO.bind ?_ (fun _ => ?_))
      | exact ih0 _ _ _
      | exact ih1 _ _ _
      | exact ih2 _ _ _ _
      | exact ih3 _ _ _ _
      | exact LeO.none _
      | refine LeO.ite ?_ ?_
      | refine LeO.bind ?_ (fun _ => ?_)
    · intro y0 y1 y2
      unfold fastjson_parseRawString.l0
      repeat' first
      | (with_reducible exact ih0 _ _ _)
      | (with_reducible exact ih1 _ _ _)
      | (with_reducible exact ih2 _ _ _ _)
      | (with_reducible exact ih3 _ _ _ _)
      | (with_reducible exact LeO.refl _)
      | (with_reducible exact LeO.none _)
      | (with_reducible refine LeO.ite ?_ ?_)
      | (with_reducible refine LeO.bind ?_ (fun _ => ?_))
      | exact ih0 _ _ _
      | exact ih1 _ _ _
      | exact ih2 _ _ _ _
      | exact ih3 _ _ _ _
      | exact LeO.none _
      | refine LeO.ite ?_ ?_
      | refine LeO.bind ?_ (fun _ => ?_)
    · intro y0 y1 y2 y3
      unfold fastjson_parseRawString.j3
      repeat' first
      | (with_reducible exact ih0 _ _ _)
      | (with_reducible exact ih1 _ _ _)
      | (with_reducible exact ih2 _ _ _ _)
      | (with_reducible exact ih3 _ _ _ _)
      | (with_reducible exact LeO.refl _)
      | (with_reducible exact LeO.none _)
      | (with_reducible refine LeO.ite ?_ ?_)
      | (with_reducible refine LeO.bind ?_ (fun _ => ?_))
      | exact ih0 _ _ _
      | exact ih1 _ _ _
      | exact ih2 _ _ _ _
      | exact ih3 _ _ _ _
      | exact LeO.none _
      | refine LeO.ite ?_ ?_
      | refine LeO.bind ?_ (fun _ => ?_)
    · intro y0 y1 y2 y3
      unfold fastjson_parseRawString.l1
      repeat' first
      | (with_reducible exact ih0 _ _ _)
      | (with_reducible exact ih1 _ _ _)
      | (with_reducible exact ih2 _ _ _ _)
      | (with_reducible exact ih3 _ _ _ _)
      | (with_reducible exact LeO.refl _)
      | (with_reducible exact LeO.none _)
      | (with_reducible refine LeO.ite ?_ ?_)
      | (with_reducible refine LeO.bind ?_ (fun _ => ?_))
      | exact ih0 _ _ _
      | exact ih1 _ _ _
      | exact ih2 _ _ _ _
      | exact ih3 _ _ _ _
      | exact LeO.none _
      | refine LeO.ite ?_ ?_
      | refine LeO.bind ?_ (fun _ => ?_)
theorem fastjson_parseRawString.mono : ∀ a0 k, LeO (fastjson_parseRawString.f k a0) (fastjson_parseRawString.f (k + 1) a0) := by
  intro a0 k
  obtain ⟨ih0, ih1, ih2, ih3⟩ := fastjson_parseRawString.mono_l k
  unfold fastjson_parseRawString.f
  repeat' first
      | (with_reducible exact ih0 _ _ _)
      | (with_reducible exact ih1 _ _ _)
      | (with_reducible exact ih2 _ _ _ _)
      | (with_reducible exact ih3 _ _ _ _)
      | (with_reducible exact LeO.refl _)
      | (with_reducible exact LeO.none _)
      | (with_reducible refine LeO.ite ?_ ?_)
      | (with_reducible refine LeO.bind ?_ (fun _ => ?_))
      | exact ih0 _ _ _
      | exact ih1 _ _ _
      | exact ih2 _ _ _ _
      | exact ih3 _ _ _ _
      | exact LeO.none _
      | refine LeO.ite ?_ ?_
      | refine LeO.bind ?_ (fun _ => ?_)
set_option maxHeartbeats 8000000 in
set_option maxRecDepth 100000 in
theorem fastjson_parseRawString.calls (k : Nat) (a0 : ByteArray) (r1 : ByteArray) (r2 : ByteArray) (r3 : Option Int) (w : World) (h : fastjson_parseRawString.f k a0 = some (r1, r2, r3)) :
    Calls Tryd.prog 29 #[.string a0] w fun e w' => ∃ x2_ : TypeId × Value, e = .returned (.tuple #[.string r1, .string r2, errX x2_ r3]) ∧ Below w.heap.size w w' := by
  have HB := Aside0.mk (Below.refl w.heap.size w)
  have H : ((strings_IndexByte.f a0 34).bind fun t399 => (if t399 < 0 then ((errors_New.f (⟨#[109, 105, 115, 115, 105, 110, 103, 32, 99, 108, 111, 115, 105, 110, 103]⟩ : ByteArray)).bind fun t400 => (some (a0, (⟨#[]⟩ : ByteArray), t400))) else (if t399 = 0 then (fastjson_parseRawString.j0 k a0 t399 true) else (if 0 ≤ (wrap64 (t399 - 1)) then (if (wrap64 (t399 - 1)) < (a0.size : Int) then (fastjson_parseRawString.j0 k a0 t399 ((bt a0 (wrap64 (t399 - 1))) != 92)) else (none)) else (none))))) = some (r1, r2, r3) := h
  clear h
  replace H := Option.bind_eq_some_iff.mp H
  obtain ⟨t399, A20, H⟩ := H
  replace H : (if t399 < 0 then ((errors_New.f (⟨#[109, 105, 115, 115, 105, 110, 103, 32, 99, 108, 111, 115, 105, 110, 103]⟩ : ByteArray)).bind fun t400 => (some (a0, (⟨#[]⟩ : ByteArray), t400))) else (if t399 = 0 then (fastjson_parseRawString.j0 k a0 t399 true) else (if 0 ≤ (wrap64 (t399 - 1)) then (if (wrap64 (t399 - 1)) < (a0.size : Int) then (fastjson_parseRawString.j0 k a0 t399 ((bt a0 (wrap64 (t399 - 1))) != 92)) else (none)) else (none)))) = some (r1, r2, r3) := H
  have A2 := Aside0.mk A20
  clear A20
  by_cases c3 : t399 < 0
  · rw [if_pos c3] at H
    have c3b0 : decide (t399 < 0) = true := decide_eq_true c3
    clear c3
    replace H := Option.bind_eq_some_iff.mp H
    obtain ⟨t400, A40, H⟩ := H
    replace H : (some (a0, (⟨#[]⟩ : ByteArray), t400)) = some (r1, r2, r3) := H
    have A4 := Aside0.mk A40
    clear A40
    simp only [Option.some.injEq, Prod.mk.injEq] at H
    obtain ⟨rfl, rfl, rfl⟩ := H
    go_enter Tryd.func29, Tryd.ntmps29
    go_wp2_with (first | (go_at_call 37; (with_reducible refine (strings_IndexByte.calls a0 34 t399 _ A2.out).mono ?_); rintro e w' ⟨rfl, ⟨nd, rfl⟩⟩; (try first | exact ⟨rfl, _, World.drewN_drewN _ _ _⟩ | exact ⟨rfl, _, Eq.trans (World.drewN_drewN _ _ _) (congrArg (World.drewN _) (Nat.add_assoc _ _ _))⟩)) | (go_at_call 38; (with_reducible refine (errors_New.calls (⟨#[109, 105, 115, 115, 105, 110, 103, 32, 99, 108, 111, 115, 105, 110, 103]⟩ : ByteArray) t400 _ A4.out).mono ?_); rintro e w5 ⟨ex_t400, rfl, hb⟩; have n0_ := Aside0.mk (below_step (by repeat (first | (with_reducible first | exact HB.out | apply below_alloc | apply pw_below_drewN | apply below_drew1) | exact HB.out)) hb); clear HB; have HB := n0_; clear n0_; (try clear hb); (try clear hb2); (try clear hk); (try clear hi); (try simp only [errX_none, errX_some])))
    repeat (go_quiet (first | (go_at_call 37; (with_reducible refine (strings_IndexByte.calls a0 34 t399 _ A2.out).mono ?_); rintro e w' ⟨rfl, ⟨nd, rfl⟩⟩; (try first | exact ⟨rfl, _, World.drewN_drewN _ _ _⟩ | exact ⟨rfl, _, Eq.trans (World.drewN_drewN _ _ _) (congrArg (World.drewN _) (Nat.add_assoc _ _ _))⟩)) | (go_at_call 38; (with_reducible refine (errors_New.calls (⟨#[109, 105, 115, 115, 105, 110, 103, 32, 99, 108, 111, 115, 105, 110, 103]⟩ : ByteArray) t400 _ A4.out).mono ?_); rintro e w5 ⟨ex_t400, rfl, hb⟩; have n0_ := Aside0.mk (below_step (by repeat (first | (with_reducible first | exact HB.out | apply below_alloc | apply pw_below_drewN | apply below_drew1) | exact HB.out)) hb); clear HB; have HB := n0_; clear n0_; (try clear hb); (try clear hb2); (try clear hk); (try clear hi); (try simp only [errX_none, errX_some]))); try go_wp2_with (first | (go_at_call 37; (with_reducible refine (strings_IndexByte.calls a0 34 t399 _ A2.out).mono ?_); rintro e w' ⟨rfl, ⟨nd, rfl⟩⟩; (try first | exact ⟨rfl, _, World.drewN_drewN _ _ _⟩ | exact ⟨rfl, _, Eq.trans (World.drewN_drewN _ _ _) (congrArg (World.drewN _) (Nat.add_assoc _ _ _))⟩)) | (go_at_call 38; (with_reducible refine (errors_New.calls (⟨#[109, 105, 115, 115, 105, 110, 103, 32, 99, 108, 111, 115, 105, 110, 103]⟩ : ByteArray) t400 _ A4.out).mono ?_); rintro e w5 ⟨ex_t400, rfl, hb⟩; have n0_ := Aside0.mk (below_step (by repeat (first | (with_reducible first | exact HB.out | apply below_alloc | apply pw_below_drewN | apply below_drew1) | exact HB.out)) hb); clear HB; have HB := n0_; clear n0_; (try clear hb); (try clear hb2); (try clear hk); (try clear hi); (try simp only [errX_none, errX_some]))))
    go_ret3
    first | exact ⟨ex_t400, by first | rfl | (simp [errX_none, errX_some] <;> rfl) | (simp [*, errX_none, errX_some] <;> rfl), by repeat (first | (with_reducible first | exact HB.out | apply below_alloc | apply pw_below_drewN | apply below_drew1) | exact HB.out)⟩ | exact ⟨ex_t400.1, ex_t400.2, by first | rfl | (simp [errX_none, errX_some] <;> rfl) | (simp [*, errX_none, errX_some] <;> rfl), by repeat (first | (with_reducible first | exact HB.out | apply below_alloc | apply pw_below_drewN | apply below_drew1) | exact HB.out)⟩ | exact ⟨⟨ex_t400, by first | rfl | (simp [errX_none, errX_some] <;> rfl) | (simp [*, errX_none, errX_some] <;> rfl)⟩, by repeat (first | (with_reducible first | exact HB.out | apply below_alloc | apply pw_below_drewN | apply below_drew1) | exact HB.out)⟩ | exact ⟨⟨ex_t400.1, ex_t400.2, by first | rfl | (simp [errX_none, errX_some] <;> rfl) | (simp [*, errX_none, errX_some] <;> rfl)⟩, by repeat (first | (with_reducible first | exact HB.out | apply below_alloc | apply pw_below_drewN | apply below_drew1) | exact HB.out)⟩
  · rw [if_neg c3] at H
    have c3b0 : decide (t399 < 0) = false := decide_eq_false c3
    clear c3
    have HC6 := Aside0.mk H
    clear H
    go_enter Tryd.func29, Tryd.ntmps29
    go_upto_region 4 with (first | (go_at_call 37; (with_reducible refine (strings_IndexByte.calls a0 34 t399 _ A2.out).mono ?_); rintro e w' ⟨rfl, ⟨nd, rfl⟩⟩; (try first | exact ⟨rfl, _, World.drewN_drewN _ _ _⟩ | exact ⟨rfl, _, Eq.trans (World.drewN_drewN _ _ _) (congrArg (World.drewN _) (Nat.add_assoc _ _ _))⟩)))
    repeat (go_quiet (first | (go_at_call 37; (with_reducible refine (strings_IndexByte.calls a0 34 t399 _ A2.out).mono ?_); rintro e w' ⟨rfl, ⟨nd, rfl⟩⟩; (try first | exact ⟨rfl, _, World.drewN_drewN _ _ _⟩ | exact ⟨rfl, _, Eq.trans (World.drewN_drewN _ _ _) (congrArg (World.drewN _) (Nat.add_assoc _ _ _))⟩))); go_upto_region 4 with (first | (go_at_call 37; (with_reducible refine (strings_IndexByte.calls a0 34 t399 _ A2.out).mono ?_); rintro e w' ⟨rfl, ⟨nd, rfl⟩⟩; (try first | exact ⟨rfl, _, World.drewN_drewN _ _ _⟩ | exact ⟨rfl, _, Eq.trans (World.drewN_drewN _ _ _) (congrArg (World.drewN _) (Nat.add_assoc _ _ _))⟩))))
    (try simp only [Act.put, List.setIfInBounds_toArray, List.set_cons_zero, List.set_cons_succ])
    go_cut [22] (fun v22 wc => ∃ (kq : Nat) (x22_5 : Bool), v22 = .bool x22_5 ∧ Aside0 (fastjson_parseRawString.j0 kq a0 t399 x22_5 = some (r1, r2, r3)) ∧ Aside0 (kq ≤ k) ∧ Aside0 (Below w.heap.size w wc))
    case first =>
      have H := HC6.out
      clear HC6
      by_cases c7 : t399 = 0
      · rw [if_pos c7] at H
        have c7b0 : (t399 == 0) = true := beq_iff_eq.mpr c7
        have c7b1 : (t399 != 0) = false := bne_eq_false_iff_eq.mpr c7
        clear c7
        (first | rw [c7b0] | (simp only [i64_w, i32_w]; rw [c7b0]) | skip)
        have H' := Aside0.mk H
        clear H
        go_wp2
        repeat (go_quiet (fail); try go_wp2)
        (first | go_meet | (rw [← c7b0]; go_meet))
        case rel => exact ⟨_, (true), (by first | rfl | (simp; done) | (simp [*]; done)), H', ⟨by first | omega | exact Nat.le_refl _⟩, ⟨by repeat (first | (with_reducible first | exact HB.out | apply below_alloc | apply pw_below_drewN | apply below_drew1) | exact HB.out)⟩⟩
      · rw [if_neg c7] at H
        have c7b0 : (t399 == 0) = false := beq_eq_false_iff_ne.mpr c7
        have c7b1 : (t399 != 0) = true := bne_iff_ne.mpr c7
        (first | rw [c7b0] | (simp only [i64_w, i32_w]; rw [c7b0]) | skip)
        obtain ⟨ji8, hji8⟩ : ∃ j_ : Int, (wrap64 (t399 - 1)) = j_ := ⟨_, rfl⟩
        replace H : (if 0 ≤ (ji8) then (if (ji8) < (a0.size : Int) then (fastjson_parseRawString.j0 k a0 t399 ((bt a0 (ji8)) != 92)) else (none)) else (none)) = some (r1, r2, r3) := by first | (rw [hji8] at H; exact H) | (simp only [hji8] at H ⊢; exact H)
        have hji8w : (IntKind.i64.wrap (t399 - 1)) = ji8 := (i64_w _).trans hji8
        by_cases c9 : 0 ≤ (ji8)
        · rw [if_pos c9] at H
          have c9b0 : decide (0 ≤ (ji8)) = true := decide_eq_true c9
          clear c9
          by_cases c10 : (ji8) < (a0.size : Int)
          · rw [if_pos c10] at H
            have c10b0 : decide ((ji8) < (a0.size : Int)) = true := decide_eq_true c10
            clear c10
            have H' := Aside0.mk H
            clear H
            have p11 : 0 ≤ ((ji8) : Int) := of_decide_eq_true (by first | (with_reducible assumption) | assumption)
            have q11 : (ji8) < (a0.size : Int) := of_decide_eq_true (by first | (with_reducible assumption) | assumption)
            have hx11 := bt_at a0 (ji8)
            replace p11 := eq_true p11
            replace q11 := eq_true q11
            go_wp2
            repeat (go_quiet (fail); try go_wp2)
            (first | go_meet | (rw [← c7b0]; go_meet))
            case rel => exact ⟨_, (((bt a0 (ji8)) != 92)), (by first | rfl | (simp; done) | (simp only [← hji8] <;> (first | rfl | (simp; done))) | (simp [*]; done) | (simp only [*]; done)), H', ⟨by first | omega | exact Nat.le_refl _⟩, ⟨by repeat (first | (with_reducible first | exact HB.out | apply below_alloc | apply pw_below_drewN | apply below_drew1) | exact HB.out)⟩⟩
          · rw [if_neg c10] at H
            exact absurd H (by simp)
        · rw [if_neg c9] at H
          exact absurd H (by simp)
    case rest =>
      clear HC6
      try clear c1
      try clear p1
      try clear q1
      try clear hx1
      try clear c2
      try clear p2
      try clear c3
      try clear c3b0
      try clear p6
      try clear c7
      try clear c7b0
      try clear c7b1
      try clear c9
      try clear c9b0
      try clear c10
      try clear c10b0
      try clear p11
      try clear q11
      try clear hx11
      try clear p11
      try clear q11
      obtain ⟨kq, x22_5, rfl, HA, HJ5, HB⟩ := hcut
      cases kq with
      | zero => exact absurd HA.out (by simp [fastjson_parseRawString.j0])
      | succ kj5 =>
        have H := HA.out
        clear HA
        simp only [fastjson_parseRawString.j0] at H
        by_cases c12 : x22_5 = true
        · subst c12
          have H1 : (if 0 ≤ t399 then (if t399 ≤ (a0.size : Int) then (if 0 ≤ (wrap64 (t399 + 1)) then (if (wrap64 (t399 + 1)) ≤ (a0.size : Int) then (some (a0.extract 0 (t399 : Int).toNat, a0.extract ((wrap64 (t399 + 1)) : Int).toNat a0.size, none)) else (none)) else (none)) else (none)) else (none)) = some (r1, r2, r3) := by rw [if_pos rfl] at H; exact H
          clear H
          have H := H1
          clear H1
          by_cases c13 : 0 ≤ t399
          · rw [if_pos c13] at H
            have c13b0 := eq_true c13
            have c13b1 : decide (0 ≤ t399) = true := decide_eq_true c13
            clear c13
            by_cases c14 : t399 ≤ (a0.size : Int)
            · rw [if_pos c14] at H
              have c14b0 := eq_true c14
              have c14b1 : decide (t399 ≤ (a0.size : Int)) = true := decide_eq_true c14
              clear c14
              obtain ⟨ji15, hji15⟩ : ∃ j_ : Int, (wrap64 (t399 + 1)) = j_ := ⟨_, rfl⟩
              replace H : (if 0 ≤ (ji15) then (if (ji15) ≤ (a0.size : Int) then (some (a0.extract 0 (t399 : Int).toNat, a0.extract ((ji15) : Int).toNat a0.size, none)) else (none)) else (none)) = some (r1, r2, r3) := by first | (rw [hji15] at H; exact H) | (simp only [hji15] at H ⊢; exact H)
              have hji15w : (IntKind.i64.wrap (t399 + 1)) = ji15 := (i64_w _).trans hji15
              by_cases c16 : 0 ≤ (ji15)
              · rw [if_pos c16] at H
                have c16b0 := eq_true c16
                have c16b1 : decide (0 ≤ (ji15)) = true := decide_eq_true c16
                clear c16
                by_cases c17 : (ji15) ≤ (a0.size : Int)
                · rw [if_pos c17] at H
                  have c17b0 := eq_true c17
                  have c17b1 : decide ((ji15) ≤ (a0.size : Int)) = true := decide_eq_true c17
                  clear c17
                  simp only [Option.some.injEq, Prod.mk.injEq] at H
                  obtain ⟨rfl, rfl, rfl⟩ := H
                  go_wp2
                  repeat (go_quiet (fail); try go_wp2)
                  go_ret3
                  first | exact ⟨noX, by first | rfl | (simp [errX_none, errX_some] <;> rfl) | (simp only [← hji15]; first | rfl | (simp [errX_none, errX_some] <;> rfl)) | (simp [*, errX_none, errX_some] <;> rfl), by repeat (first | (with_reducible first | exact HB.out | apply below_alloc | apply pw_below_drewN | apply below_drew1) | exact HB.out)⟩ | exact ⟨noX.1, noX.2, by first | rfl | (simp [errX_none, errX_some] <;> rfl) | (simp only [← hji15]; first | rfl | (simp [errX_none, errX_some] <;> rfl)) | (simp [*, errX_none, errX_some] <;> rfl), by repeat (first | (with_reducible first | exact HB.out | apply below_alloc | apply pw_below_drewN | apply below_drew1) | exact HB.out)⟩ | exact ⟨⟨noX, by first | rfl | (simp [errX_none, errX_some] <;> rfl) | (simp only [← hji15]; first | rfl | (simp [errX_none, errX_some] <;> rfl)) | (simp [*, errX_none, errX_some] <;> rfl)⟩, by repeat (first | (with_reducible first | exact HB.out | apply below_alloc | apply pw_below_drewN | apply below_drew1) | exact HB.out)⟩ | exact ⟨⟨noX.1, noX.2, by first | rfl | (simp [errX_none, errX_some] <;> rfl) | (simp only [← hji15]; first | rfl | (simp [errX_none, errX_some] <;> rfl)) | (simp [*, errX_none, errX_some] <;> rfl)⟩, by repeat (first | (with_reducible first | exact HB.out | apply below_alloc | apply pw_below_drewN | apply below_drew1) | exact HB.out)⟩
                · rw [if_neg c17] at H
                  exact absurd H (by simp)
              · rw [if_neg c16] at H
                exact absurd H (by simp)
            · rw [if_neg c14] at H
              exact absurd H (by simp)
          · rw [if_neg c13] at H
            exact absurd H (by simp)
        · replace c12 := Bool.eq_false_iff.mpr c12
          subst c12
          have H1 : (fastjson_parseRawString.l0 kj5 a0 t399 a0) = some (r1, r2, r3) := by rw [if_neg (show ¬ (false = true) by decide)] at H; exact H
          clear H
          have H := H1
          clear H1
          have H' := Aside0.mk H
          clear H
          go_wp2
          repeat (go_quiet (fail); try go_wp2)
          (try simp only [Act.put, List.setIfInBounds_toArray, List.set_cons_zero, List.set_cons_succ])
          go_loopg [0, 5] kj5 (fun kq v0 v5 w' => ∃ (x0_2 : ByteArray) (x5_2 : Int), v0 = .string x0_2 ∧ v5 = .int .i64 x5_2 ∧ Aside0 (fastjson_parseRawString.l0 kq x0_2 x5_2 a0 = some (r1, r2, r3)) ∧ Aside0 (kq ≤ kj5) ∧ Aside0 (Below w.heap.size w w'))
          case atStart => exact ⟨(a0), (t399), (by first | rfl | (simp; done) | (simp [*]; done)), (by first | rfl | (simp; done) | (simp [*]; done)), H', ⟨Nat.le_refl _⟩, ⟨by repeat (first | (with_reducible first | exact HB.out | apply below_alloc | apply pw_below_drewN | apply below_drew1) | exact HB.out)⟩⟩
          case round =>
            clear H'
            try clear c1
            try clear p1
            try clear q1
            try clear hx1
            try clear c2
            try clear p2
            try clear c3
            try clear c3b0
            try clear p6
            try clear c7
            try clear c7b0
            try clear c7b1
            try clear c9
            try clear c9b0
            try clear c10
            try clear c10b0
            try clear p11
            try clear q11
            try clear hx11
            try clear c12
            try clear c13
            try clear c13b0
            try clear c13b1
            try clear c14
            try clear c14b0
            try clear c14b1
            try clear c16
            try clear c16b0
            try clear c16b1
            try clear c17
            try clear c17b0
            try clear c17b1
            try clear p1
            try clear p11
            try clear p2
            try clear p6
            try clear q1
            try clear q11
            obtain ⟨x0_2, x5_2, rfl, rfl, HA, HK2, HB⟩ := hrel
            cases gk with
            | zero => exact absurd HA.out (by simp [fastjson_parseRawString.l0])
            | succ k2 =>
              have H := HA.out
              clear HA
              simp only [fastjson_parseRawString.l0] at H
              have HC18 := Aside0.mk H
              clear H
              go_upto_block 2 with (fail)
              repeat (go_quiet (fail); go_upto_block 2 with (fail))
              go_cut [7] (fun v7 wc => ∃ (kq : Nat) (x7_17 : Int), v7 = .int .i64 x7_17 ∧ Aside0 (fastjson_parseRawString.j3 kq x0_2 x5_2 a0 x7_17 = some (r1, r2, r3)) ∧ Aside0 (kq ≤ k2) ∧ Aside0 (Below w.heap.size w wc))
              case first =>
                have H := HC18.out
                clear HC18
                have H' := Aside0.mk H
                clear H
                go_wp2
                repeat (go_quiet (fail); try go_wp2)
                (try simp only [Act.put, List.setIfInBounds_toArray, List.set_cons_zero, List.set_cons_succ])
                go_loopg [7] k2 (fun kq v7 w' => ∃ (x7_3 : Int), v7 = .int .i64 x7_3 ∧ Aside0 (fastjson_parseRawString.l1 kq x0_2 x5_2 a0 x7_3 = some (r1, r2, r3)) ∧ Aside0 (kq ≤ k2) ∧ Aside0 (Below w.heap.size w w'))
                case atStart => exact ⟨(wrap64 (x5_2 - 1)), (by first | rfl | (simp; done) | (simp [*]; done)), H', ⟨Nat.le_refl _⟩, ⟨by repeat (first | (with_reducible first | exact HB.out | apply below_alloc | apply pw_below_drewN | apply below_drew1) | exact HB.out)⟩⟩
                case round =>
                  clear H'
                  try clear c1
                  try clear p1
                  try clear q1
                  try clear hx1
                  try clear c2
                  try clear p2
                  try clear c3
                  try clear c3b0
                  try clear p6
                  try clear c7
                  try clear c7b0
                  try clear c7b1
                  try clear c9
                  try clear c9b0
                  try clear c10
                  try clear c10b0
                  try clear p11
                  try clear q11
                  try clear hx11
                  try clear c12
                  try clear c13
                  try clear c13b0
                  try clear c13b1
                  try clear c14
                  try clear c14b0
                  try clear c14b1
                  try clear c16
                  try clear c16b0
                  try clear c16b1
                  try clear c17
                  try clear c17b0
                  try clear c17b1
                  try clear p1
                  try clear p11
                  try clear p2
                  try clear p6
                  try clear q1
                  try clear q11
                  obtain ⟨x7_3, rfl, HA, HK3, HB⟩ := hrel
                  cases gk with
                  | zero => exact absurd HA.out (by simp [fastjson_parseRawString.l1])
                  | succ k3 =>
                    have H := HA.out
                    clear HA
                    simp only [fastjson_parseRawString.l1] at H
                    by_cases c19 : x7_3 > 0
                    · rw [if_pos c19] at H
                      have c19b0 : decide (0 < x7_3) = true := decide_eq_true c19
                      clear c19
                      (first | rw [c19b0] | (simp only [i64_w, i32_w]; rw [c19b0]) | skip)
                      obtain ⟨ji20, hji20⟩ : ∃ j_ : Int, (wrap64 (x7_3 - 1)) = j_ := ⟨_, rfl⟩
                      replace H : (if 0 ≤ (ji20) then (if (ji20) < (x0_2.size : Int) then (if (bt x0_2 (ji20)) = 92 then (fastjson_parseRawString.l1 k3 x0_2 x5_2 a0 ji20) else (fastjson_parseRawString.j3 k3 x0_2 x5_2 a0 x7_3)) else (none)) else (none)) = some (r1, r2, r3) := by first | (rw [hji20] at H; exact H) | (simp only [hji20] at H ⊢; exact H)
                      have hji20w : (IntKind.i64.wrap (x7_3 - 1)) = ji20 := (i64_w _).trans hji20
                      by_cases c21 : 0 ≤ (ji20)
                      · rw [if_pos c21] at H
                        have c21b0 : decide (0 ≤ (ji20)) = true := decide_eq_true c21
                        clear c21
                        by_cases c22 : (ji20) < (x0_2.size : Int)
                        · rw [if_pos c22] at H
                          have c22b0 : decide ((ji20) < (x0_2.size : Int)) = true := decide_eq_true c22
                          clear c22
                          by_cases c24 : (bt x0_2 (ji20)) = 92
                          · rw [if_pos c24] at H
                            have c24b0 : ((bt x0_2 (ji20)) == 92) = true := beq_iff_eq.mpr c24
                            have c24b1 : ((bt x0_2 (ji20)) != 92) = false := bne_eq_false_iff_eq.mpr c24
                            clear c24
                            have H' := Aside0.mk H
                            clear H
                            have p23 : 0 ≤ ((ji20) : Int) := of_decide_eq_true (by first | (with_reducible assumption) | assumption)
                            have q23 : (ji20) < (x0_2.size : Int) := of_decide_eq_true (by first | (with_reducible assumption) | assumption)
                            have hx23 := bt_at x0_2 (ji20)
                            replace p23 := eq_true p23
                            replace q23 := eq_true q23
                            go_wp2
                            repeat (go_quiet (fail); try go_wp2)
                            go_roundg k3
                            case measure => have := HJ5.out; have := HK2.out; have := HK3.out; omega
                            case rel => exact ⟨(ji20), (by first | rfl | (simp; done) | (simp only [← hji20] <;> (first | rfl | (simp; done))) | (simp [*]; done) | (simp only [*]; done)), H', ⟨by have := HJ5.out; have := HK2.out; have := HK3.out; omega⟩, ⟨by repeat (first | (with_reducible first | exact HB.out | apply below_alloc | apply pw_below_drewN | apply below_drew1) | exact HB.out)⟩⟩
                          · rw [if_neg c24] at H
                            have c24b0 : ((bt x0_2 (ji20)) == 92) = false := beq_eq_false_iff_ne.mpr c24
                            have c24b1 : ((bt x0_2 (ji20)) != 92) = true := bne_iff_ne.mpr c24
                            have H' := Aside0.mk H
                            clear H
                            have p23 : 0 ≤ ((ji20) : Int) := of_decide_eq_true (by first | (with_reducible assumption) | assumption)
                            have q23 : (ji20) < (x0_2.size : Int) := of_decide_eq_true (by first | (with_reducible assumption) | assumption)
                            have hx23 := bt_at x0_2 (ji20)
                            replace p23 := eq_true p23
                            replace q23 := eq_true q23
                            go_wp2
                            repeat (go_quiet (fail); try go_wp2)
                            (first | go_meet | (rw [← c24b0]; go_meet))
                            case rel => exact ⟨_, (x7_3), (by first | rfl | (simp; done) | (simp [*]; done)), H', ⟨by have := HJ5.out; have := HK2.out; have := HK3.out; first | omega | exact Nat.le_refl _⟩, ⟨by repeat (first | (with_reducible first | exact HB.out | apply below_alloc | apply pw_below_drewN | apply below_drew1) | exact HB.out)⟩⟩
                        · rw [if_neg c22] at H
                          exact absurd H (by simp)
                      · rw [if_neg c21] at H
                        exact absurd H (by simp)
                    · rw [if_neg c19] at H
                      have c19b0 : decide (0 < x7_3) = false := decide_eq_false c19
                      clear c19
                      (first | rw [c19b0] | (simp only [i64_w, i32_w]; rw [c19b0]) | skip)
                      have H' := Aside0.mk H
                      clear H
                      go_wp2
                      repeat (go_quiet (fail); try go_wp2)
                      (first | go_meet)
                      case rel => exact ⟨_, (x7_3), (by first | rfl | (simp; done) | (simp [*]; done)), H', ⟨by have := HJ5.out; have := HK2.out; have := HK3.out; first | omega | exact Nat.le_refl _⟩, ⟨by repeat (first | (with_reducible first | exact HB.out | apply below_alloc | apply pw_below_drewN | apply below_drew1) | exact HB.out)⟩⟩
              case rest =>
                clear HC18
                try clear c1
                try clear p1
                try clear q1
                try clear hx1
                try clear c2
                try clear p2
                try clear q2
                try clear hx2
                try clear c3
                try clear c3b0
                try clear p6
                try clear c7
                try clear c7b0
                try clear c7b1
                try clear c9
                try clear c9b0
                try clear c10
                try clear c10b0
                try clear p11
                try clear q11
                try clear hx11
                try clear c12
                try clear c13
                try clear c13b0
                try clear c13b1
                try clear c14
                try clear c14b0
                try clear c14b1
                try clear c16
                try clear c16b0
                try clear c16b1
                try clear c17
                try clear c17b0
                try clear c17b1
                try clear c19
                try clear c19b0
                try clear c21
                try clear c21b0
                try clear c22
                try clear c22b0
                try clear p23
                try clear q23
                try clear hx23
                try clear c24
                try clear c24b0
                try clear c24b1
                try clear p1
                try clear p11
                try clear p2
                try clear p23
                try clear p6
                try clear q1
                try clear q11
                try clear q23
                obtain ⟨kq, x7_17, rfl, HA, HJ17, HB⟩ := hcut
                cases kq with
                | zero => exact absurd HA.out (by simp [fastjson_parseRawString.j3])
                | succ kj17 =>
                  have H := HA.out
                  clear HA
                  simp only [fastjson_parseRawString.j3] at H
                  by_cases c25 : (Int.tmod (IntKind.u64.wrap (wrap64 (x5_2 - x7_17))) 2) = 0
                  · rw [if_pos c25] at H
                    have c25b0 : ((Int.tmod (IntKind.u64.wrap (wrap64 (x5_2 - x7_17))) 2) == 0) = true := beq_iff_eq.mpr c25
                    have c25b1 : ((Int.tmod (IntKind.u64.wrap (wrap64 (x5_2 - x7_17))) 2) != 0) = false := bne_eq_false_iff_eq.mpr c25
                    clear c25
                    obtain ⟨ji26, hji26⟩ : ∃ j_ : Int, (wrap64 ((wrap64 ((a0.size : Int) - (x0_2.size : Int))) + x5_2)) = j_ := ⟨_, rfl⟩
                    replace H : (if 0 ≤ (ji26) then (if (ji26) ≤ (a0.size : Int) then (if 0 ≤ (wrap64 (x5_2 + 1)) then (if (wrap64 (x5_2 + 1)) ≤ (x0_2.size : Int) then (some (a0.extract 0 ((ji26) : Int).toNat, x0_2.extract ((wrap64 (x5_2 + 1)) : Int).toNat x0_2.size, none)) else (none)) else (none)) else (none)) else (none)) = some (r1, r2, r3) := by first | (rw [hji26] at H; exact H) | (simp only [hji26] at H ⊢; exact H)
                    have hji26w : (IntKind.i64.wrap ((wrap64 ((a0.size : Int) - (x0_2.size : Int))) + x5_2)) = ji26 := (i64_w _).trans hji26
                    by_cases c27 : 0 ≤ (ji26)
                    · rw [if_pos c27] at H
                      have c27b0 := eq_true c27
                      have c27b1 : decide (0 ≤ (ji26)) = true := decide_eq_true c27
                      clear c27
                      by_cases c28 : (ji26) ≤ (a0.size : Int)
                      · rw [if_pos c28] at H
                        have c28b0 := eq_true c28
                        have c28b1 : decide ((ji26) ≤ (a0.size : Int)) = true := decide_eq_true c28
                        clear c28
                        obtain ⟨ji29, hji29⟩ : ∃ j_ : Int, (wrap64 (x5_2 + 1)) = j_ := ⟨_, rfl⟩
                        replace H : (if 0 ≤ (ji29) then (if (ji29) ≤ (x0_2.size : Int) then (some (a0.extract 0 ((ji26) : Int).toNat, x0_2.extract ((ji29) : Int).toNat x0_2.size, none)) else (none)) else (none)) = some (r1, r2, r3) := by first | (rw [hji29] at H; exact H) | (simp only [hji29] at H ⊢; exact H)
                        have hji29w : (IntKind.i64.wrap (x5_2 + 1)) = ji29 := (i64_w _).trans hji29
                        by_cases c30 : 0 ≤ (ji29)
                        · rw [if_pos c30] at H
                          have c30b0 := eq_true c30
                          have c30b1 : decide (0 ≤ (ji29)) = true := decide_eq_true c30
                          clear c30
                          by_cases c31 : (ji29) ≤ (x0_2.size : Int)
                          · rw [if_pos c31] at H
                            have c31b0 := eq_true c31
                            have c31b1 : decide ((ji29) ≤ (x0_2.size : Int)) = true := decide_eq_true c31
                            clear c31
                            simp only [Option.some.injEq, Prod.mk.injEq] at H
                            obtain ⟨rfl, rfl, rfl⟩ := H
                            go_wp2
                            repeat (go_quiet (fail); try go_wp2)
                            go_ret3
                            first | exact ⟨noX, by first | rfl | (simp [errX_none, errX_some] <;> rfl) | (simp only [← hji26, ← hji29]; first | rfl | (simp [errX_none, errX_some] <;> rfl)) | (simp [*, errX_none, errX_some] <;> rfl), by repeat (first | (with_reducible first | exact HB.out | apply below_alloc | apply pw_below_drewN | apply below_drew1) | exact HB.out)⟩ | exact ⟨noX.1, noX.2, by first | rfl | (simp [errX_none, errX_some] <;> rfl) | (simp only [← hji26, ← hji29]; first | rfl | (simp [errX_none, errX_some] <;> rfl)) | (simp [*, errX_none, errX_some] <;> rfl), by repeat (first | (with_reducible first | exact HB.out | apply below_alloc | apply pw_below_drewN | apply below_drew1) | exact HB.out)⟩ | exact ⟨⟨noX, by first | rfl | (simp [errX_none, errX_some] <;> rfl) | (simp only [← hji26, ← hji29]; first | rfl | (simp [errX_none, errX_some] <;> rfl)) | (simp [*, errX_none, errX_some] <;> rfl)⟩, by repeat (first | (with_reducible first | exact HB.out | apply below_alloc | apply pw_below_drewN | apply below_drew1) | exact HB.out)⟩ | exact ⟨⟨noX.1, noX.2, by first | rfl | (simp [errX_none, errX_some] <;> rfl) | (simp only [← hji26, ← hji29]; first | rfl | (simp [errX_none, errX_some] <;> rfl)) | (simp [*, errX_none, errX_some] <;> rfl)⟩, by repeat (first | (with_reducible first | exact HB.out | apply below_alloc | apply pw_below_drewN | apply below_drew1) | exact HB.out)⟩
                          · rw [if_neg c31] at H
                            exact absurd H (by simp)
                        · rw [if_neg c30] at H
                          exact absurd H (by simp)
                      · rw [if_neg c28] at H
                        exact absurd H (by simp)
                    · rw [if_neg c27] at H
                      exact absurd H (by simp)
                  · rw [if_neg c25] at H
                    have c25b0 : ((Int.tmod (IntKind.u64.wrap (wrap64 (x5_2 - x7_17))) 2) == 0) = false := beq_eq_false_iff_ne.mpr c25
                    have c25b1 : ((Int.tmod (IntKind.u64.wrap (wrap64 (x5_2 - x7_17))) 2) != 0) = true := bne_iff_ne.mpr c25
                    obtain ⟨ji32, hji32⟩ : ∃ j_ : Int, (wrap64 (x5_2 + 1)) = j_ := ⟨_, rfl⟩
                    replace H : (if 0 ≤ (ji32) then (if (ji32) ≤ (x0_2.size : Int) then ((strings_IndexByte.f (x0_2.extract ((ji32) : Int).toNat x0_2.size) 34).bind fun t401 => (if t401 < 0 then ((errors_New.f (⟨#[109, 105, 115, 115, 105, 110, 103, 32, 99, 108, 111, 115, 105, 110, 103]⟩ : ByteArray)).bind fun t402 => (some (a0, (⟨#[]⟩ : ByteArray), t402))) else (if t401 = 0 then (if 0 ≤ (wrap64 ((wrap64 ((a0.size : Int) - ((x0_2.extract ((ji32) : Int).toNat x0_2.size).size : Int))) + t401)) then (if (wrap64 ((wrap64 ((a0.size : Int) - ((x0_2.extract ((ji32) : Int).toNat x0_2.size).size : Int))) + t401)) ≤ (a0.size : Int) then (if 0 ≤ (wrap64 (t401 + 1)) then (if (wrap64 (t401 + 1)) ≤ ((x0_2.extract ((ji32) : Int).toNat x0_2.size).size : Int) then (some (a0.extract 0 ((wrap64 ((wrap64 ((a0.size : Int) - ((x0_2.extract ((ji32) : Int).toNat x0_2.size).size : Int))) + t401)) : Int).toNat, (x0_2.extract ((ji32) : Int).toNat x0_2.size).extract ((wrap64 (t401 + 1)) : Int).toNat (x0_2.extract ((ji32) : Int).toNat x0_2.size).size, none)) else (none)) else (none)) else (none)) else (none)) else (if 0 ≤ (wrap64 (t401 - 1)) then (if (wrap64 (t401 - 1)) < ((x0_2.extract ((ji32) : Int).toNat x0_2.size).size : Int) then (if (bt (x0_2.extract ((ji32) : Int).toNat x0_2.size) (wrap64 (t401 - 1))) = 92 then (fastjson_parseRawString.l0 kj17 (x0_2.extract ((ji32) : Int).toNat x0_2.size) t401 a0) else (if 0 ≤ (wrap64 ((wrap64 ((a0.size : Int) - ((x0_2.extract ((ji32) : Int).toNat x0_2.size).size : Int))) + t401)) then (if (wrap64 ((wrap64 ((a0.size : Int) - ((x0_2.extract ((ji32) : Int).toNat x0_2.size).size : Int))) + t401)) ≤ (a0.size : Int) then (if 0 ≤ (wrap64 (t401 + 1)) then (if (wrap64 (t401 + 1)) ≤ ((x0_2.extract ((ji32) : Int).toNat x0_2.size).size : Int) then (some (a0.extract 0 ((wrap64 ((wrap64 ((a0.size : Int) - ((x0_2.extract ((ji32) : Int).toNat x0_2.size).size : Int))) + t401)) : Int).toNat, (x0_2.extract ((ji32) : Int).toNat x0_2.size).extract ((wrap64 (t401 + 1)) : Int).toNat (x0_2.extract ((ji32) : Int).toNat x0_2.size).size, none)) else (none)) else (none)) else (none)) else (none))) else (none)) else (none))))) else (none)) else (none)) = some (r1, r2, r3) := by first | (rw [hji32] at H; exact H) | (simp only [hji32] at H ⊢; exact H)
                    have hji32w : (IntKind.i64.wrap (x5_2 + 1)) = ji32 := (i64_w _).trans hji32
                    by_cases c33 : 0 ≤ (ji32)
                    · rw [if_pos c33] at H
                      have c33b0 := eq_true c33
                      have c33b1 : decide (0 ≤ (ji32)) = true := decide_eq_true c33
                      clear c33
                      by_cases c34 : (ji32) ≤ (x0_2.size : Int)
                      · rw [if_pos c34] at H
                        have c34b0 := eq_true c34
                        have c34b1 : decide ((ji32) ≤ (x0_2.size : Int)) = true := decide_eq_true c34
                        clear c34
                        replace H := Option.bind_eq_some_iff.mp H
                        obtain ⟨t401, A350, H⟩ := H
                        replace H : (if t401 < 0 then ((errors_New.f (⟨#[109, 105, 115, 115, 105, 110, 103, 32, 99, 108, 111, 115, 105, 110, 103]⟩ : ByteArray)).bind fun t402 => (some (a0, (⟨#[]⟩ : ByteArray), t402))) else (if t401 = 0 then (if 0 ≤ (wrap64 ((wrap64 ((a0.size : Int) - ((x0_2.extract ((ji32) : Int).toNat x0_2.size).size : Int))) + t401)) then (if (wrap64 ((wrap64 ((a0.size : Int) - ((x0_2.extract ((ji32) : Int).toNat x0_2.size).size : Int))) + t401)) ≤ (a0.size : Int) then (if 0 ≤ (wrap64 (t401 + 1)) then (if (wrap64 (t401 + 1)) ≤ ((x0_2.extract ((ji32) : Int).toNat x0_2.size).size : Int) then (some (a0.extract 0 ((wrap64 ((wrap64 ((a0.size : Int) - ((x0_2.extract ((ji32) : Int).toNat x0_2.size).size : Int))) + t401)) : Int).toNat, (x0_2.extract ((ji32) : Int).toNat x0_2.size).extract ((wrap64 (t401 + 1)) : Int).toNat (x0_2.extract ((ji32) : Int).toNat x0_2.size).size, none)) else (none)) else (none)) else (none)) else (none)) else (if 0 ≤ (wrap64 (t401 - 1)) then (if (wrap64 (t401 - 1)) < ((x0_2.extract ((ji32) : Int).toNat x0_2.size).size : Int) then (if (bt (x0_2.extract ((ji32) : Int).toNat x0_2.size) (wrap64 (t401 - 1))) = 92 then (fastjson_parseRawString.l0 kj17 (x0_2.extract ((ji32) : Int).toNat x0_2.size) t401 a0) else (if 0 ≤ (wrap64 ((wrap64 ((a0.size : Int) - ((x0_2.extract ((ji32) : Int).toNat x0_2.size).size : Int))) + t401)) then (if (wrap64 ((wrap64 ((a0.size : Int) - ((x0_2.extract ((ji32) : Int).toNat x0_2.size).size : Int))) + t401)) ≤ (a0.size : Int) then (if 0 ≤ (wrap64 (t401 + 1)) then (if (wrap64 (t401 + 1)) ≤ ((x0_2.extract ((ji32) : Int).toNat x0_2.size).size : Int) then (some (a0.extract 0 ((wrap64 ((wrap64 ((a0.size : Int) - ((x0_2.extract ((ji32) : Int).toNat x0_2.size).size : Int))) + t401)) : Int).toNat, (x0_2.extract ((ji32) : Int).toNat x0_2.size).extract ((wrap64 (t401 + 1)) : Int).toNat (x0_2.extract ((ji32) : Int).toNat x0_2.size).size, none)) else (none)) else (none)) else (none)) else (none))) else (none)) else (none)))) = some (r1, r2, r3) := H
                        have A35 := Aside0.mk A350
                        clear A350
                        by_cases c36 : t401 < 0
                        · rw [if_pos c36] at H
                          have c36b0 : decide (t401 < 0) = true := decide_eq_true c36
                          clear c36
                          replace H := Option.bind_eq_some_iff.mp H
                          obtain ⟨t402, A370, H⟩ := H
                          replace H : (some (a0, (⟨#[]⟩ : ByteArray), t402)) = some (r1, r2, r3) := H
                          have A37 := Aside0.mk A370
                          clear A370
                          simp only [Option.some.injEq, Prod.mk.injEq] at H
                          obtain ⟨rfl, rfl, rfl⟩ := H
                          go_wp2_with (first | (go_at_call 37; (with_reducible refine (strings_IndexByte.calls (x0_2.extract ((ji32) : Int).toNat x0_2.size) 34 t401 _ A35.out).mono ?_); rintro e w' ⟨rfl, ⟨nd, rfl⟩⟩; (try first | exact ⟨rfl, _, World.drewN_drewN _ _ _⟩ | exact ⟨rfl, _, Eq.trans (World.drewN_drewN _ _ _) (congrArg (World.drewN _) (Nat.add_assoc _ _ _))⟩)) | (go_at_call 38; (with_reducible refine (errors_New.calls (⟨#[109, 105, 115, 115, 105, 110, 103, 32, 99, 108, 111, 115, 105, 110, 103]⟩ : ByteArray) t402 _ A37.out).mono ?_); rintro e w38 ⟨ex_t402, rfl, hb⟩; have n0_ := Aside0.mk (below_step (by repeat (first | (with_reducible first | exact HB.out | apply below_alloc | apply pw_below_drewN | apply below_drew1) | exact HB.out)) hb); clear HB; have HB := n0_; clear n0_; (try clear hb); (try clear hb2); (try clear hk); (try clear hi); (try simp only [errX_none, errX_some])))
                          repeat (go_quiet (first | (go_at_call 37; (with_reducible refine (strings_IndexByte.calls (x0_2.extract ((ji32) : Int).toNat x0_2.size) 34 t401 _ A35.out).mono ?_); rintro e w' ⟨rfl, ⟨nd, rfl⟩⟩; (try first | exact ⟨rfl, _, World.drewN_drewN _ _ _⟩ | exact ⟨rfl, _, Eq.trans (World.drewN_drewN _ _ _) (congrArg (World.drewN _) (Nat.add_assoc _ _ _))⟩)) | (go_at_call 38; (with_reducible refine (errors_New.calls (⟨#[109, 105, 115, 115, 105, 110, 103, 32, 99, 108, 111, 115, 105, 110, 103]⟩ : ByteArray) t402 _ A37.out).mono ?_); rintro e w38 ⟨ex_t402, rfl, hb⟩; have n0_ := Aside0.mk (below_step (by repeat (first | (with_reducible first | exact HB.out | apply below_alloc | apply pw_below_drewN | apply below_drew1) | exact HB.out)) hb); clear HB; have HB := n0_; clear n0_; (try clear hb); (try clear hb2); (try clear hk); (try clear hi); (try simp only [errX_none, errX_some]))); try go_wp2_with (first | (go_at_call 37; (with_reducible refine (strings_IndexByte.calls (x0_2.extract ((ji32) : Int).toNat x0_2.size) 34 t401 _ A35.out).mono ?_); rintro e w' ⟨rfl, ⟨nd, rfl⟩⟩; (try first | exact ⟨rfl, _, World.drewN_drewN _ _ _⟩ | exact ⟨rfl, _, Eq.trans (World.drewN_drewN _ _ _) (congrArg (World.drewN _) (Nat.add_assoc _ _ _))⟩)) | (go_at_call 38; (with_reducible refine (errors_New.calls (⟨#[109, 105, 115, 115, 105, 110, 103, 32, 99, 108, 111, 115, 105, 110, 103]⟩ : ByteArray) t402 _ A37.out).mono ?_); rintro e w38 ⟨ex_t402, rfl, hb⟩; have n0_ := Aside0.mk (below_step (by repeat (first | (with_reducible first | exact HB.out | apply below_alloc | apply pw_below_drewN | apply below_drew1) | exact HB.out)) hb); clear HB; have HB := n0_; clear n0_; (try clear hb); (try clear hb2); (try clear hk); (try clear hi); (try simp only [errX_none, errX_some]))))
                          go_ret3
                          first | exact ⟨ex_t402, by first | rfl | (simp [errX_none, errX_some] <;> rfl) | (simp only [← hji32]; first | rfl | (simp [errX_none, errX_some] <;> rfl)) | (simp [*, errX_none, errX_some] <;> rfl), by repeat (first | (with_reducible first | exact HB.out | apply below_alloc | apply pw_below_drewN | apply below_drew1) | exact HB.out)⟩ | exact ⟨ex_t402.1, ex_t402.2, by first | rfl | (simp [errX_none, errX_some] <;> rfl) | (simp only [← hji32]; first | rfl | (simp [errX_none, errX_some] <;> rfl)) | (simp [*, errX_none, errX_some] <;> rfl), by repeat (first | (with_reducible first | exact HB.out | apply below_alloc | apply pw_below_drewN | apply below_drew1) | exact HB.out)⟩ | exact ⟨⟨ex_t402, by first | rfl | (simp [errX_none, errX_some] <;> rfl) | (simp only [← hji32]; first | rfl | (simp [errX_none, errX_some] <;> rfl)) | (simp [*, errX_none, errX_some] <;> rfl)⟩, by repeat (first | (with_reducible first | exact HB.out | apply below_alloc | apply pw_below_drewN | apply below_drew1) | exact HB.out)⟩ | exact ⟨⟨ex_t402.1, ex_t402.2, by first | rfl | (simp [errX_none, errX_some] <;> rfl) | (simp only [← hji32]; first | rfl | (simp [errX_none, errX_some] <;> rfl)) | (simp [*, errX_none, errX_some] <;> rfl)⟩, by repeat (first | (with_reducible first | exact HB.out | apply below_alloc | apply pw_below_drewN | apply below_drew1) | exact HB.out)⟩
                        · rw [if_neg c36] at H
                          have c36b0 : decide (t401 < 0) = false := decide_eq_false c36
                          clear c36
                          by_cases c39 : t401 = 0
                          · rw [if_pos c39] at H
                            have c39b0 : (t401 == 0) = true := beq_iff_eq.mpr c39
                            have c39b1 : (t401 != 0) = false := bne_eq_false_iff_eq.mpr c39
                            clear c39
                            obtain ⟨ji40, hji40⟩ : ∃ j_ : Int, (wrap64 ((wrap64 ((a0.size : Int) - ((x0_2.extract ((ji32) : Int).toNat x0_2.size).size : Int))) + t401)) = j_ := ⟨_, rfl⟩
                            replace H : (if 0 ≤ (ji40) then (if (ji40) ≤ (a0.size : Int) then (if 0 ≤ (wrap64 (t401 + 1)) then (if (wrap64 (t401 + 1)) ≤ ((x0_2.extract ((ji32) : Int).toNat x0_2.size).size : Int) then (some (a0.extract 0 ((ji40) : Int).toNat, (x0_2.extract ((ji32) : Int).toNat x0_2.size).extract ((wrap64 (t401 + 1)) : Int).toNat (x0_2.extract ((ji32) : Int).toNat x0_2.size).size, none)) else (none)) else (none)) else (none)) else (none)) = some (r1, r2, r3) := by first | (rw [hji40] at H; exact H) | (simp only [hji40] at H ⊢; exact H)
                            (try rw [hji40] at A35)
                            have hji40w : (IntKind.i64.wrap ((wrap64 ((a0.size : Int) - ((x0_2.extract ((ji32) : Int).toNat x0_2.size).size : Int))) + t401)) = ji40 := (i64_w _).trans hji40
                            have hji40e := hji40w
                            (try simp only [ByteArray.size_extract, Nat.min_self] at hji40e)
                            by_cases c41 : 0 ≤ (ji40)
                            · rw [if_pos c41] at H
                              have c41b0 := eq_true c41
                              have c41b1 : decide (0 ≤ (ji40)) = true := decide_eq_true c41
                              clear c41
                              by_cases c42 : (ji40) ≤ (a0.size : Int)
                              · rw [if_pos c42] at H
                                have c42b0 := eq_true c42
                                have c42b1 : decide ((ji40) ≤ (a0.size : Int)) = true := decide_eq_true c42
                                clear c42
                                obtain ⟨ji43, hji43⟩ : ∃ j_ : Int, (wrap64 (t401 + 1)) = j_ := ⟨_, rfl⟩
                                replace H : (if 0 ≤ (ji43) then (if (ji43) ≤ ((x0_2.extract ((ji32) : Int).toNat x0_2.size).size : Int) then (some (a0.extract 0 ((ji40) : Int).toNat, (x0_2.extract ((ji32) : Int).toNat x0_2.size).extract ((ji43) : Int).toNat (x0_2.extract ((ji32) : Int).toNat x0_2.size).size, none)) else (none)) else (none)) = some (r1, r2, r3) := by first | (rw [hji43] at H; exact H) | (simp only [hji43] at H ⊢; exact H)
                                (try rw [hji43] at A35)
                                have hji43w : (IntKind.i64.wrap (t401 + 1)) = ji43 := (i64_w _).trans hji43
                                by_cases c44 : 0 ≤ (ji43)
                                · rw [if_pos c44] at H
                                  have c44b0 := eq_true c44
                                  have c44b1 : decide (0 ≤ (ji43)) = true := decide_eq_true c44
                                  clear c44
                                  by_cases c45 : (ji43) ≤ ((x0_2.extract ((ji32) : Int).toNat x0_2.size).size : Int)
                                  · rw [if_pos c45] at H
                                    have c45b0 := eq_true c45
                                    have c45e0 := c45b0
                                    (try simp only [ByteArray.size_extract, Nat.min_self] at c45e0)
                                    (first | have c45f0 := of_decide_eq_true c45e0 | have c45f0 := of_decide_eq_false c45e0 | skip)
                                    have c45b1 : decide ((ji43) ≤ ((x0_2.extract ((ji32) : Int).toNat x0_2.size).size : Int)) = true := decide_eq_true c45
                                    have c45e1 := c45b1
                                    (try simp only [ByteArray.size_extract, Nat.min_self] at c45e1)
                                    (first | have c45f1 := of_decide_eq_true c45e1 | have c45f1 := of_decide_eq_false c45e1 | skip)
                                    clear c45
                                    simp only [Option.some.injEq, Prod.mk.injEq] at H
                                    obtain ⟨rfl, rfl, rfl⟩ := H
                                    go_wp2_with (first | (go_at_call 37; (with_reducible refine (strings_IndexByte.calls (x0_2.extract ((ji32) : Int).toNat x0_2.size) 34 t401 _ A35.out).mono ?_); rintro e w' ⟨rfl, ⟨nd, rfl⟩⟩; (try first | exact ⟨rfl, _, World.drewN_drewN _ _ _⟩ | exact ⟨rfl, _, Eq.trans (World.drewN_drewN _ _ _) (congrArg (World.drewN _) (Nat.add_assoc _ _ _))⟩)))
                                    repeat (go_quiet (first | (go_at_call 37; (with_reducible refine (strings_IndexByte.calls (x0_2.extract ((ji32) : Int).toNat x0_2.size) 34 t401 _ A35.out).mono ?_); rintro e w' ⟨rfl, ⟨nd, rfl⟩⟩; (try first | exact ⟨rfl, _, World.drewN_drewN _ _ _⟩ | exact ⟨rfl, _, Eq.trans (World.drewN_drewN _ _ _) (congrArg (World.drewN _) (Nat.add_assoc _ _ _))⟩))); try go_wp2_with (first | (go_at_call 37; (with_reducible refine (strings_IndexByte.calls (x0_2.extract ((ji32) : Int).toNat x0_2.size) 34 t401 _ A35.out).mono ?_); rintro e w' ⟨rfl, ⟨nd, rfl⟩⟩; (try first | exact ⟨rfl, _, World.drewN_drewN _ _ _⟩ | exact ⟨rfl, _, Eq.trans (World.drewN_drewN _ _ _) (congrArg (World.drewN _) (Nat.add_assoc _ _ _))⟩))))
                                    go_ret3
                                    first | exact ⟨noX, by first | rfl | (simp [errX_none, errX_some] <;> rfl) | (simp only [← hji32, ← hji40, ← hji43]; first | rfl | (simp [errX_none, errX_some] <;> rfl)) | (simp [*, errX_none, errX_some] <;> rfl), by repeat (first | (with_reducible first | exact HB.out | apply below_alloc | apply pw_below_drewN | apply below_drew1) | exact HB.out)⟩ | exact ⟨noX.1, noX.2, by first | rfl | (simp [errX_none, errX_some] <;> rfl) | (simp only [← hji32, ← hji40, ← hji43]; first | rfl | (simp [errX_none, errX_some] <;> rfl)) | (simp [*, errX_none, errX_some] <;> rfl), by repeat (first | (with_reducible first | exact HB.out | apply below_alloc | apply pw_below_drewN | apply below_drew1) | exact HB.out)⟩ | exact ⟨⟨noX, by first | rfl | (simp [errX_none, errX_some] <;> rfl) | (simp only [← hji32, ← hji40, ← hji43]; first | rfl | (simp [errX_none, errX_some] <;> rfl)) | (simp [*, errX_none, errX_some] <;> rfl)⟩, by repeat (first | (with_reducible first | exact HB.out | apply below_alloc | apply pw_below_drewN | apply below_drew1) | exact HB.out)⟩ | exact ⟨⟨noX.1, noX.2, by first | rfl | (simp [errX_none, errX_some] <;> rfl) | (simp only [← hji32, ← hji40, ← hji43]; first | rfl | (simp [errX_none, errX_some] <;> rfl)) | (simp [*, errX_none, errX_some] <;> rfl)⟩, by repeat (first | (with_reducible first | exact HB.out | apply below_alloc | apply pw_below_drewN | apply below_drew1) | exact HB.out)⟩
                                  · rw [if_neg c45] at H
                                    exact absurd H (by simp)
                                · rw [if_neg c44] at H
                                  exact absurd H (by simp)
                              · rw [if_neg c42] at H
                                exact absurd H (by simp)
                            · rw [if_neg c41] at H
                              exact absurd H (by simp)
                          · rw [if_neg c39] at H
                            have c39b0 : (t401 == 0) = false := beq_eq_false_iff_ne.mpr c39
                            have c39b1 : (t401 != 0) = true := bne_iff_ne.mpr c39
                            obtain ⟨ji46, hji46⟩ : ∃ j_ : Int, (wrap64 (t401 - 1)) = j_ := ⟨_, rfl⟩
                            replace H : (if 0 ≤ (ji46) then (if (ji46) < ((x0_2.extract ((ji32) : Int).toNat x0_2.size).size : Int) then (if (bt (x0_2.extract ((ji32) : Int).toNat x0_2.size) (ji46)) = 92 then (fastjson_parseRawString.l0 kj17 (x0_2.extract ((ji32) : Int).toNat x0_2.size) t401 a0) else (if 0 ≤ (wrap64 ((wrap64 ((a0.size : Int) - ((x0_2.extract ((ji32) : Int).toNat x0_2.size).size : Int))) + t401)) then (if (wrap64 ((wrap64 ((a0.size : Int) - ((x0_2.extract ((ji32) : Int).toNat x0_2.size).size : Int))) + t401)) ≤ (a0.size : Int) then (if 0 ≤ (wrap64 (t401 + 1)) then (if (wrap64 (t401 + 1)) ≤ ((x0_2.extract ((ji32) : Int).toNat x0_2.size).size : Int) then (some (a0.extract 0 ((wrap64 ((wrap64 ((a0.size : Int) - ((x0_2.extract ((ji32) : Int).toNat x0_2.size).size : Int))) + t401)) : Int).toNat, (x0_2.extract ((ji32) : Int).toNat x0_2.size).extract ((wrap64 (t401 + 1)) : Int).toNat (x0_2.extract ((ji32) : Int).toNat x0_2.size).size, none)) else (none)) else (none)) else (none)) else (none))) else (none)) else (none)) = some (r1, r2, r3) := by first | (rw [hji46] at H; exact H) | (simp only [hji46] at H ⊢; exact H)
                            (try rw [hji46] at A35)
                            have hji46w : (IntKind.i64.wrap (t401 - 1)) = ji46 := (i64_w _).trans hji46
                            by_cases c47 : 0 ≤ (ji46)
                            · rw [if_pos c47] at H
                              have c47b0 : decide (0 ≤ (ji46)) = true := decide_eq_true c47
                              clear c47
                              by_cases c48 : (ji46) < ((x0_2.extract ((ji32) : Int).toNat x0_2.size).size : Int)
                              · rw [if_pos c48] at H
                                have c48b0 : decide ((ji46) < ((x0_2.extract ((ji32) : Int).toNat x0_2.size).size : Int)) = true := decide_eq_true c48
                                have c48e0 := c48b0
                                (try simp only [ByteArray.size_extract, Nat.min_self] at c48e0)
                                (first | have c48f0 := of_decide_eq_true c48e0 | have c48f0 := of_decide_eq_false c48e0 | skip)
                                clear c48
                                by_cases c50 : (bt (x0_2.extract ((ji32) : Int).toNat x0_2.size) (ji46)) = 92
                                · rw [if_pos c50] at H
                                  have c50b0 : ((bt (x0_2.extract ((ji32) : Int).toNat x0_2.size) (ji46)) == 92) = true := beq_iff_eq.mpr c50
                                  have c50b1 : ((bt (x0_2.extract ((ji32) : Int).toNat x0_2.size) (ji46)) != 92) = false := bne_eq_false_iff_eq.mpr c50
                                  clear c50
                                  have H' := Aside0.mk H
                                  clear H
                                  go_wp2_with (first | (go_at_call 37; (with_reducible refine (strings_IndexByte.calls (x0_2.extract ((ji32) : Int).toNat x0_2.size) 34 t401 _ A35.out).mono ?_); rintro e w' ⟨rfl, ⟨nd, rfl⟩⟩; (try first | exact ⟨rfl, _, World.drewN_drewN _ _ _⟩ | exact ⟨rfl, _, Eq.trans (World.drewN_drewN _ _ _) (congrArg (World.drewN _) (Nat.add_assoc _ _ _))⟩); have p49 : 0 ≤ ((ji46) : Int) := of_decide_eq_true (by first | (with_reducible assumption) | assumption); have q49 : (ji46) < ((x0_2.extract ((ji32) : Int).toNat x0_2.size).size : Int) := of_decide_eq_true (by first | (with_reducible assumption) | assumption); have hx49 := bt_at (x0_2.extract ((ji32) : Int).toNat x0_2.size) (ji46); replace p49 := eq_true p49; replace q49 := eq_true q49))
                                  repeat (go_quiet (first | (go_at_call 37; (with_reducible refine (strings_IndexByte.calls (x0_2.extract ((ji32) : Int).toNat x0_2.size) 34 t401 _ A35.out).mono ?_); rintro e w' ⟨rfl, ⟨nd, rfl⟩⟩; (try first | exact ⟨rfl, _, World.drewN_drewN _ _ _⟩ | exact ⟨rfl, _, Eq.trans (World.drewN_drewN _ _ _) (congrArg (World.drewN _) (Nat.add_assoc _ _ _))⟩); have p49 : 0 ≤ ((ji46) : Int) := of_decide_eq_true (by first | (with_reducible assumption) | assumption); have q49 : (ji46) < ((x0_2.extract ((ji32) : Int).toNat x0_2.size).size : Int) := of_decide_eq_true (by first | (with_reducible assumption) | assumption); have hx49 := bt_at (x0_2.extract ((ji32) : Int).toNat x0_2.size) (ji46); replace p49 := eq_true p49; replace q49 := eq_true q49)); try go_wp2_with (first | (go_at_call 37; (with_reducible refine (strings_IndexByte.calls (x0_2.extract ((ji32) : Int).toNat x0_2.size) 34 t401 _ A35.out).mono ?_); rintro e w' ⟨rfl, ⟨nd, rfl⟩⟩; (try first | exact ⟨rfl, _, World.drewN_drewN _ _ _⟩ | exact ⟨rfl, _, Eq.trans (World.drewN_drewN _ _ _) (congrArg (World.drewN _) (Nat.add_assoc _ _ _))⟩); have p49 : 0 ≤ ((ji46) : Int) := of_decide_eq_true (by first | (with_reducible assumption) | assumption); have q49 : (ji46) < ((x0_2.extract ((ji32) : Int).toNat x0_2.size).size : Int) := of_decide_eq_true (by first | (with_reducible assumption) | assumption); have hx49 := bt_at (x0_2.extract ((ji32) : Int).toNat x0_2.size) (ji46); replace p49 := eq_true p49; replace q49 := eq_true q49)))
                                  go_roundg kj17
                                  case measure => have := HJ5.out; have := HK2.out; have := HJ17.out; omega
                                  case rel => exact ⟨(x0_2.extract ((ji32) : Int).toNat x0_2.size), (t401), (by first | rfl | (simp; done) | (simp only [← hji32] <;> (first | rfl | (simp; done))) | (simp [*]; done) | (simp only [*]; done)), (by first | rfl | (simp; done) | (simp [*]; done)), H', ⟨by have := HJ5.out; have := HK2.out; have := HJ17.out; omega⟩, ⟨by repeat (first | (with_reducible first | exact HB.out | apply below_alloc | apply pw_below_drewN | apply below_drew1) | exact HB.out)⟩⟩
                                · rw [if_neg c50] at H
                                  have c50b0 : ((bt (x0_2.extract ((ji32) : Int).toNat x0_2.size) (ji46)) == 92) = false := beq_eq_false_iff_ne.mpr c50
                                  have c50b1 : ((bt (x0_2.extract ((ji32) : Int).toNat x0_2.size) (ji46)) != 92) = true := bne_iff_ne.mpr c50
                                  obtain ⟨ji51, hji51⟩ : ∃ j_ : Int, (wrap64 ((wrap64 ((a0.size : Int) - ((x0_2.extract ((ji32) : Int).toNat x0_2.size).size : Int))) + t401)) = j_ := ⟨_, rfl⟩
                                  replace H : (if 0 ≤ (ji51) then (if (ji51) ≤ (a0.size : Int) then (if 0 ≤ (wrap64 (t401 + 1)) then (if (wrap64 (t401 + 1)) ≤ ((x0_2.extract ((ji32) : Int).toNat x0_2.size).size : Int) then (some (a0.extract 0 ((ji51) : Int).toNat, (x0_2.extract ((ji32) : Int).toNat x0_2.size).extract ((wrap64 (t401 + 1)) : Int).toNat (x0_2.extract ((ji32) : Int).toNat x0_2.size).size, none)) else (none)) else (none)) else (none)) else (none)) = some (r1, r2, r3) := by first | (rw [hji51] at H; exact H) | (simp only [hji51] at H ⊢; exact H)
                                  (try rw [hji51] at A35)
                                  have hji51w : (IntKind.i64.wrap ((wrap64 ((a0.size : Int) - ((x0_2.extract ((ji32) : Int).toNat x0_2.size).size : Int))) + t401)) = ji51 := (i64_w _).trans hji51
                                  have hji51e := hji51w
                                  (try simp only [ByteArray.size_extract, Nat.min_self] at hji51e)
                                  by_cases c52 : 0 ≤ (ji51)
                                  · rw [if_pos c52] at H
                                    have c52b0 := eq_true c52
                                    have c52b1 : decide (0 ≤ (ji51)) = true := decide_eq_true c52
                                    clear c52
                                    by_cases c53 : (ji51) ≤ (a0.size : Int)
                                    · rw [if_pos c53] at H
                                      have c53b0 := eq_true c53
                                      have c53b1 : decide ((ji51) ≤ (a0.size : Int)) = true := decide_eq_true c53
                                      clear c53
                                      obtain ⟨ji54, hji54⟩ : ∃ j_ : Int, (wrap64 (t401 + 1)) = j_ := ⟨_, rfl⟩
                                      replace H : (if 0 ≤ (ji54) then (if (ji54) ≤ ((x0_2.extract ((ji32) : Int).toNat x0_2.size).size : Int) then (some (a0.extract 0 ((ji51) : Int).toNat, (x0_2.extract ((ji32) : Int).toNat x0_2.size).extract ((ji54) : Int).toNat (x0_2.extract ((ji32) : Int).toNat x0_2.size).size, none)) else (none)) else (none)) = some (r1, r2, r3) := by first | (rw [hji54] at H; exact H) | (simp only [hji54] at H ⊢; exact H)
                                      (try rw [hji54] at A35)
                                      have hji54w : (IntKind.i64.wrap (t401 + 1)) = ji54 := (i64_w _).trans hji54
                                      by_cases c55 : 0 ≤ (ji54)
                                      · rw [if_pos c55] at H
                                        have c55b0 := eq_true c55
                                        have c55b1 : decide (0 ≤ (ji54)) = true := decide_eq_true c55
                                        clear c55
                                        by_cases c56 : (ji54) ≤ ((x0_2.extract ((ji32) : Int).toNat x0_2.size).size : Int)
                                        · rw [if_pos c56] at H
                                          have c56b0 := eq_true c56
                                          have c56e0 := c56b0
                                          (try simp only [ByteArray.size_extract, Nat.min_self] at c56e0)
                                          (first | have c56f0 := of_decide_eq_true c56e0 | have c56f0 := of_decide_eq_false c56e0 | skip)
                                          have c56b1 : decide ((ji54) ≤ ((x0_2.extract ((ji32) : Int).toNat x0_2.size).size : Int)) = true := decide_eq_true c56
                                          have c56e1 := c56b1
                                          (try simp only [ByteArray.size_extract, Nat.min_self] at c56e1)
                                          (first | have c56f1 := of_decide_eq_true c56e1 | have c56f1 := of_decide_eq_false c56e1 | skip)
                                          clear c56
                                          simp only [Option.some.injEq, Prod.mk.injEq] at H
                                          obtain ⟨rfl, rfl, rfl⟩ := H
                                          go_wp2_with (first | (go_at_call 37; (with_reducible refine (strings_IndexByte.calls (x0_2.extract ((ji32) : Int).toNat x0_2.size) 34 t401 _ A35.out).mono ?_); rintro e w' ⟨rfl, ⟨nd, rfl⟩⟩; (try first | exact ⟨rfl, _, World.drewN_drewN _ _ _⟩ | exact ⟨rfl, _, Eq.trans (World.drewN_drewN _ _ _) (congrArg (World.drewN _) (Nat.add_assoc _ _ _))⟩); have p49 : 0 ≤ ((ji46) : Int) := of_decide_eq_true (by first | (with_reducible assumption) | assumption); have q49 : (ji46) < ((x0_2.extract ((ji32) : Int).toNat x0_2.size).size : Int) := of_decide_eq_true (by first | (with_reducible assumption) | assumption); have hx49 := bt_at (x0_2.extract ((ji32) : Int).toNat x0_2.size) (ji46); replace p49 := eq_true p49; replace q49 := eq_true q49))
                                          repeat (go_quiet (first | (go_at_call 37; (with_reducible refine (strings_IndexByte.calls (x0_2.extract ((ji32) : Int).toNat x0_2.size) 34 t401 _ A35.out).mono ?_); rintro e w' ⟨rfl, ⟨nd, rfl⟩⟩; (try first | exact ⟨rfl, _, World.drewN_drewN _ _ _⟩ | exact ⟨rfl, _, Eq.trans (World.drewN_drewN _ _ _) (congrArg (World.drewN _) (Nat.add_assoc _ _ _))⟩); have p49 : 0 ≤ ((ji46) : Int) := of_decide_eq_true (by first | (with_reducible assumption) | assumption); have q49 : (ji46) < ((x0_2.extract ((ji32) : Int).toNat x0_2.size).size : Int) := of_decide_eq_true (by first | (with_reducible assumption) | assumption); have hx49 := bt_at (x0_2.extract ((ji32) : Int).toNat x0_2.size) (ji46); replace p49 := eq_true p49; replace q49 := eq_true q49)); try go_wp2_with (first | (go_at_call 37; (with_reducible refine (strings_IndexByte.calls (x0_2.extract ((ji32) : Int).toNat x0_2.size) 34 t401 _ A35.out).mono ?_); rintro e w' ⟨rfl, ⟨nd, rfl⟩⟩; (try first | exact ⟨rfl, _, World.drewN_drewN _ _ _⟩ | exact ⟨rfl, _, Eq.trans (World.drewN_drewN _ _ _) (congrArg (World.drewN _) (Nat.add_assoc _ _ _))⟩); have p49 : 0 ≤ ((ji46) : Int) := of_decide_eq_true (by first | (with_reducible assumption) | assumption); have q49 : (ji46) < ((x0_2.extract ((ji32) : Int).toNat x0_2.size).size : Int) := of_decide_eq_true (by first | (with_reducible assumption) | assumption); have hx49 := bt_at (x0_2.extract ((ji32) : Int).toNat x0_2.size) (ji46); replace p49 := eq_true p49; replace q49 := eq_true q49)))
                                          go_ret3
                                          first | exact ⟨noX, by first | rfl | (simp [errX_none, errX_some] <;> rfl) | (simp only [← hji32, ← hji46, ← hji51, ← hji54]; first | rfl | (simp [errX_none, errX_some] <;> rfl)) | (simp [*, errX_none, errX_some] <;> rfl), by repeat (first | (with_reducible first | exact HB.out | apply below_alloc | apply pw_below_drewN | apply below_drew1) | exact HB.out)⟩ | exact ⟨noX.1, noX.2, by first | rfl | (simp [errX_none, errX_some] <;> rfl) | (simp only [← hji32, ← hji46, ← hji51, ← hji54]; first | rfl | (simp [errX_none, errX_some] <;> rfl)) | (simp [*, errX_none, errX_some] <;> rfl), by repeat (first | (with_reducible first | exact HB.out | apply below_alloc | apply pw_below_drewN | apply below_drew1) | exact HB.out)⟩ | exact ⟨⟨noX, by first | rfl | (simp [errX_none, errX_some] <;> rfl) | (simp only [← hji32, ← hji46, ← hji51, ← hji54]; first | rfl | (simp [errX_none, errX_some] <;> rfl)) | (simp [*, errX_none, errX_some] <;> rfl)⟩, by repeat (first | (with_reducible first | exact HB.out | apply below_alloc | apply pw_below_drewN | apply below_drew1) | exact HB.out)⟩ | exact ⟨⟨noX.1, noX.2, by first | rfl | (simp [errX_none, errX_some] <;> rfl) | (simp only [← hji32, ← hji46, ← hji51, ← hji54]; first | rfl | (simp [errX_none, errX_some] <;> rfl)) | (simp [*, errX_none, errX_some] <;> rfl)⟩, by repeat (first | (with_reducible first | exact HB.out | apply below_alloc | apply pw_below_drewN | apply below_drew1) | exact HB.out)⟩
                                        · rw [if_neg c56] at H
                                          exact absurd H (by simp)
                                      · rw [if_neg c55] at H
                                        exact absurd H (by simp)
                                    · rw [if_neg c53] at H
                                      exact absurd H (by simp)
                                  · rw [if_neg c52] at H
                                    exact absurd H (by simp)
                              · rw [if_neg c48] at H
                                exact absurd H (by simp)
                            · rw [if_neg c47] at H
                              exact absurd H (by simp)
                      · rw [if_neg c34] at H
                        exact absurd H (by simp)
                    · rw [if_neg c33] at H
                      exact absurd H (by simp)


end Go.Proofs.YtkhgbacbnkgafaaDoor.Lex
